import PyProof.Rows.All
import Wide.All
import OpenK.AllK
import Wide.FinOn
import PySem.Challenge.RW_dm0028_05
set_option Elab.async false
section
open PySem PySem.W PySem.Calls PyProof.Rows
set_option Elab.async false
set_option maxRecDepth 100000
set_option maxHeartbeats 4000000
namespace Mine
section
variable {prog : Program} {w : World} {A : Around} {R : Result → Shared → Prop} {h : Heap} {g : Array GenState} {d : Drawn} {t : Nat} {os : OsState}
variable {nm q : Str} {C N : Addr} {bs bm : List Value} {hdct : Bool} {sn : List Str} {sub : List Value} {ab : Bool} {col : Option Bool} {dd : Option Addr} {k0 k1 k2 k3 k5 : Option Value}

abbrev excObj (C : Addr) (d : Option Addr) (t : Addr) : Obj := ⟨.ref C, d, .fields #[.ref t, .none, .none, .none, .bool false, .none], #[]⟩
abbrev tupObj (vs : List Value) : Obj := { cls := .type "tuple", data := .seq vs.toArray }

theorem exc_new {rest : List Value} {kw : List (Str × Value)} (hC : h.get? C = some (excClassObj nm q C N bs bm hdct sn sub ab col dd k0 k1 k2 k3 k5 "Exception.__new__"))
    (hcB : (Value.ref C :: bm).contains (.type "Exception") = true) (hcA : (Value.ref C :: bm).contains (.type "AttributeError") = false) (hcN : (Value.ref C :: bm).contains (.type "NameError") = false)
    (hq : R (.ok (.ret (.ref (h.objs.size + 1)))) ⟨(h.push (tupObj rest)).push (excObj C none h.objs.size), g, d, t, os⟩) (hrest : rest.length ≤ sizeLine) :
    codeAny (model prog w) A (.builtin "Exception.__new__" ⟨.ref C :: rest, kw⟩) R ⟨h, g, d, t, os⟩ := by
  have F := PySem.F.excBase_Exception
  have hends := F.ends
  refine codeAny_builtinAt F.entry ?_
  unfold Builtin.«BaseException.__new__»
  refine PySem.wpAt_bind ?_
  show PySem.wpAt _ _ _ (stack >>= _) _ _ _
  refine PySem.wpAt_bind (PySem.wpAt_stack fun p below => PySem.wpAt_of_wpAny ?_)
  wp_walk
  refine PySem.wpAt_of_wpAny ?_
  rw [F.owner]
  repeat (first | with_reducible refine wpAny_madeHere_exc F.canon hC ?_ | with_reducible refine wpAny_loadPart_at hC ?_ | (with_reducible refine wpAny_isSubtype_exc hC ?_; first | rw [hcB] | rw [hcA] | rw [hcN]) | wp_step)
  show R _ _
  rw [Heap.size_push]
  exact hq

theorem exc_check_new {M : Model} {E : Value → Shared → Prop} {rest : List Value} {kw : List (Str × Value)} {Q : Unit → Shared → Prop} (hC : h.get? C = some (excClassObj nm q C N bs bm hdct sn sub ab col dd k0 k1 k2 k3 k5 "Exception.__new__"))
    (hcB : (Value.ref C :: bm).contains (.type "Exception") = true)
    (hq : Q () ⟨h, g, d, t, os⟩) : wpAny M A (checkBuiltinCall "Exception.__new__" ⟨.ref C :: rest, kw⟩) Q E ⟨h, g, d, t, os⟩ := by
  have F := PySem.F.excBase_Exception
  have hstar := F.noStar
  simp only [checkBuiltinCall, F.newKind, F.newSplit, F.newRow]
  repeat (first | refine wpAny_loadPart_at hC ?_ | (refine wpAny_isSubtype_exc hC ?_; rw [hcB]) | refine wpAny_staticBase_exc hC ?_ | refine wpAny_madeBy_exc hC ?_ | simp only [bne_self_eq_false, Bool.false_eq_true, if_false] | wp_step)
  exact hq
end
end Mine
end
section
open PySem PySem.W PySem.Calls PyProof.Rows
set_option Elab.async false
set_option maxRecDepth 100000
set_option maxHeartbeats 4000000
namespace Mine
section
variable {prog : Program} {w : World} {A : Around} {R : Result → Shared → Prop} {h : Heap} {g : Array GenState} {d : Drawn} {t : Nat} {os : OsState}
variable {nm q : Str} {C N : Addr} {bs bm : List Value} {hdct : Bool} {sn : List Str} {sub : List Value} {ab : Bool} {col : Option Bool} {dd : Option Addr} {k0 k1 k2 k3 k5 : Option Value}

theorem exc_make {rest : List Value} {kw : List (Str × Value)} {fI : Addr} (hC : h.get? C = some (excClassObj nm q C N bs bm hdct sn sub ab col dd k0 k1 k2 k3 k5 "Exception.__new__"))
    (hcB : (Value.ref C :: bm).contains (.type "Exception") = true) (hcA : (Value.ref C :: bm).contains (.type "AttributeError") = false) (hcN : (Value.ref C :: bm).contains (.type "NameError") = false)
    (call : Looks (model prog w) h (specialOf (.ref C) "__call__") (some (.builtin "type.__call__"))) (typ : Looks (model prog w) h (isInstance (.ref C) (.type "type")) true)
    (hi : Looks (model prog w) h (typeLookup (.ref C) "__init__") (some (.ref fI))) (hb : ∀ self, Looks (model prog w) h (bindSpecial (.ref fI) self) (.ref fI, [self])) (hrest : rest.length ≤ sizeLine)
    (hq : codeAny (model prog w) (A.under (.builtin "type.__call__" ⟨.ref C :: rest, kw⟩)) (.call (.ref fI) ⟨.ref (h.objs.size + 1) :: rest, kw⟩) (InitBack (h.objs.size + 1) R) ⟨(h.push (tupObj rest)).push (excObj C none h.objs.size), g, d, t, os⟩) :
    codeAny (model prog w) A (.call (.ref C) ⟨rest, kw⟩) R ⟨h, g, d, t, os⟩ := by
  refine codeAny_of_tree ?_
  show wpAny _ _ (callAny (.ref C) _) _ _ _
  refine nd_load hC ?_
  show wpAny _ _ (callAny.viaDunder (.ref C) _) _ _ _
  unfold callAny.viaDunder
  refine wpAny_bind (call.at ?_)
  dsimp only
  rw [tc_bind]
  refine wpAny_bind (wpAny_pure (wpAny_bind (wpAny_pure ?_)))
  refine wpAny_pure (a := Fin.again (.call (.builtin "type.__call__") ⟨.ref C :: rest, kw⟩)) (And.intro rfl ?_)
  refine codeAny_call_builtin_at (Code.quiet_builtin _ (by decide +kernel)) entry_typeCall (check_slot tc_kind tc_split typ (tc_args _ _ _) ?_)
  unfold Builtin.«type.__call__»
  have hm : Looks (model prog w) h (mroOf (.ref C)) (.ref C :: bm) := ((Looks.ld (part := none) hC).andThen .now).andThen .now
  have made : Looks (model prog w) h (Bind.madeBy (.ref C)) (some "Exception.__new__") := by
    intro A Q E s k q
    obtain ⟨hh, g, d, t, os⟩ := s
    exact wpAny_madeBy_exc (k _ _ hC) q
  repeat (first | with_reducible refine wpAny_call ?_ | lk)
  refine codeAny_call_builtin_code (Code.quiet_builtin _ PySem.F.excBase_Exception.quiet) (exc_check_new hC hcB ?_)
  refine exc_new hC hcB hcA hcN ?_ hrest
  have k : ∀ b o, h.get? b = some o → ((h.push (tupObj rest)).push (excObj C none h.objs.size)).get? b = some o := fun b o e => Heap.get?_push_of_some _ (Heap.get?_push_of_some _ e)
  have hx : ((h.push (tupObj rest)).push (excObj C none h.objs.size)).get? (h.objs.size + 1) = some (excObj C none h.objs.size) := by heap_get
  have t1 : Looks (model prog w) ((h.push (tupObj rest)).push (excObj C none h.objs.size)) (typeOf (.ref (h.objs.size + 1))) (.ref C) := (Looks.ld hx).andThen .now
  have s1 : Looks (model prog w) ((h.push (tupObj rest)).push (excObj C none h.objs.size)) (isSubtype (.ref C) (.ref C)) true := by
    intro A Q E s k' q
    obtain ⟨hh, g, d, t, os⟩ := s
    exact wpAny_isSubtype_exc (k' _ _ (k _ _ hC)) (by rw [show (Value.ref C :: bm).contains (.ref C) = true from by simp]; exact q)
  have i1 := hi.keeps k
  have b1 := (hb (.ref (h.objs.size + 1))).keeps k
  unfold isInstance callSpecial? specialOf
  repeat (first | with_reducible refine wpAny_call ?_ | lk)
  refine codeAny_mono hq fun r s' z => ?_
  rcases r with e | (v | _ | _ | _) <;> first | exact z | exact z.elim | skip
  obtain ⟨rfl, z⟩ := z
  exact wpAny_pure (wpAny_pure z)
end
end Mine
end
section
open PySem PySem.W PySem.Calls PyProof.Rows PySem.Builtin PySem.Builtin.ObjectAttr
set_option Elab.async false
set_option maxRecDepth 100000
set_option maxHeartbeats 4000000
namespace Mine
def excTail : List Value → Bool
  | [.type a, .type b, .type c] => a == "Exception" && b == "BaseException" && c == "object"
  | .ref _ :: r => excTail r
  | _ => false
theorem refuse_base (self : Value) : refuseLoop self "__setattr__" [.type "Exception", .type "BaseException", .type "object"] = pure () := by kernel_rfl
theorem excTail_cases {l : List Value} (e : excTail l = true) : (∃ a b c, l = [.type a, .type b, .type c] ∧ a = "Exception" ∧ b = "BaseException" ∧ c = "object") ∨ (∃ a r, l = .ref a :: r ∧ excTail r = true) := by
  unfold excTail at e
  split at e
  · rename_i a b c
    simp only [Bool.and_eq_true, beq_iff_eq] at e
    exact .inl ⟨a, b, c, rfl, e.1.1, e.1.2, e.2⟩
  · rename_i a r; exact .inr ⟨a, r, rfl, e⟩
  · cases e
theorem refuse_exc (self : Value) : ∀ {l : List Value}, excTail l = true → refuseLoop self "__setattr__" l = pure ()
  | l, e => by
    rcases excTail_cases e with ⟨a, b, c, rfl, rfl, rfl, rfl⟩ | ⟨a, r, rfl, e'⟩
    · exact refuse_base self
    · rw [refuseLoop_ref]; exact refuse_exc self e'
termination_by l => l.length
theorem excTail_obj : ∀ {l : List Value}, excTail l = true → l.contains (.type "object") = true
  | l, e => by
    rcases excTail_cases e with ⟨a, b, c, rfl, rfl, rfl, rfl⟩ | ⟨a, r, rfl, e'⟩
    · decide
    · rw [List.contains_cons, excTail_obj e', Bool.or_true]
termination_by l => l.length
def excOver (K : Frag) (C : Addr) : Bool := (clsIn K C).any fun cd => excTail cd.mro

section
variable {prog : Program} {w : World} {A : Around} {K : Frag} {C x : Addr} {s : Shared} {h₀ : Heap} {L : Addr} {m : Str → Option Value} {news : List (Addr × Obj)} {R : Result → Shared → Prop}
theorem exc_osa_open {ox : Obj} {od : Option Obj} {name : Str} {tk : Tok} {v : Value} {r : Option Value} (X : K.In s.heap) (I : InstAt s.heap x ox C od) (hp : excOver K C = true) (ht : takerIn K C name = some r)
    (h : ∀ b, wpAny (model prog w) A.in1 (match r with | some a => setByDescriptor a (.ref x) v | none => storeInOwnDict (.ref x) (.ref C) (.str name tk) name v b)
      (fun fin s' => match fin with | .done f => R (.ok f) s' | .again c' => c'.quiet = true ∧ codeAny (model prog w) A c' R s') (fun e s' => R (.error e) s') s) :
    codeAny (model prog w) A (.call (.builtin "object.__setattr__") ⟨[.ref x, .str name tk, v], []⟩) R s := by
  have SF := PySem.F.store_object
  obtain ⟨cd, hc, ho⟩ := any_some hp
  have ne : cd.mro.isEmpty = false := by cases q : cd.mro with | nil => rw [q] at ho; cases ho | cons _ _ => rfl
  have sub : Looks (model prog w) s.heap (isInstance (.ref x) (.type "object")) true := I.type.andThen (looks_mroIn X (by unfold mroIn; rw [hc, Option.bind_some, if_neg (by rw [ne]; decide), excTail_obj ho]))
  refine codeAny_call_builtin SF.slot.plain SF.entry (@check_slot (model prog w) _ _ s "object.__setattr__" "object" "__setattr__" (.ref x) [.str name tk, v] [] _ SF.kind SF.split sub (SF.args (.ref x) (.str name tk) v) ?_)
  obtain ⟨attr, ha, hr⟩ := Option.bind_eq_some_iff.mp ht
  have hm : Looks (model prog w) s.heap (mroOf (.ref C)) cd.mro := (looks_clsIn X hc).andThen .now
  have L3 : Looks (model prog w) s.heap (storeTaker? attr) r := by
    cases attr with
    | none => cases hr; exact .now
    | some a =>
      obtain ⟨b, hb, rfl⟩ := Option.map_eq_some_iff.mp hr
      refine (looks_takesIn X hb).andThen ?_
      cases b <;> exact .now
  rw [osa_eq, refuse_eq]
  refine wpAny_bind (wpAny_bind (I.type.here (wpAny_bind (hm.here ?_))))
  rw [refuse_exc _ ho]
  refine wpAny_pure (wpAny_bind (I.type.here (wpAny_bind ((looks_findIn X ha).here (wpAny_bind (L3.here ?_))))))
  exact h _
end
end Mine
end
section
open PySem PySem.W PySem.Calls PyProof.Rows PySem.Builtin PySem.Builtin.ObjectAttr
set_option Elab.async false
set_option maxRecDepth 100000
set_option maxHeartbeats 4000000
namespace Mine
section
variable {prog : Program} {w : World} {A : Around} {E : Value → Shared → Prop} {K : Frag} {C x dx ta : Addr} {s : Shared} {h₀ : Heap} {L : Addr} {m : Str → Option Value} {news news' : List (Addr × Obj)} {R : Result → Shared → Prop}
theorem InstAt.of_exc {h : Heap} {od : Obj} (N : News h₀ L h news) (h1 : (x, excObj C (some dx) ta) ∈ news) (h2 : (dx, od) ∈ news) : InstAt h x (excObj C (some dx) ta) C (some od) := ⟨(N _ h1).1, rfl, rfl, (N _ h2).1⟩
theorem InstAt.of_exc0 {h : Heap} (N : News h₀ L h news) (h1 : (x, excObj C none ta) ∈ news) : InstAt h x (excObj C none ta) C none := ⟨(N _ h1).1, rfl, rfl, trivial⟩

/-- the store into an own dict that stands -/
theorem exc_osa_dict {od od' : Obj} {name : Str} {tk : Tok} {v : Value} {pre post : List (Addr × Obj)} {es : List DictEntry} {n : Nat} (F : Fr h₀ L s.heap m) (N : News h₀ L s.heap (pre ++ (dx, od) :: post)) (X : K.In s.heap)
    (I : InstAt s.heap x (excObj C (some dx) ta) C (some od)) (hp : excOver K C = true) (ht : takerIn K C name = some none) (hh : hasDictIn K C = true)
    (hl : (lookIn name od).isSome = true) (h1 : ∀ p ∈ pre, p.1 ≠ dx) (h2 : ∀ p ∈ post, p.1 ≠ dx)
    (e : Obj.putName name (PyData.keyHash w.params name) (.str name s.toks) v od = od') (e' : od'.data = .dict es.toArray n) (hz : es.length ≤ 1000)
    (h : ∀ h', Fr h₀ L h' m → News h₀ L h' (pre ++ (dx, od') :: post) → R (.ok (.ret .none)) { s with heap := h', toks := s.toks + 1 }) :
    codeAny (model prog w) A (.call (.builtin "object.__setattr__") ⟨[.ref x, .str name tk, v], []⟩) R s := by
  refine exc_osa_open X I hp ht fun b => ?_
  obtain ⟨cd, hc, hd'⟩ := any_some hh
  obtain ⟨U1, U2⟩ := news_upd (f := Obj.putName name (PyData.keyHash w.params name) (.str name s.toks) v) F N h1 h2 e (by obtain ⟨_, _, dd, _⟩ := od'; cases e'; rfl)
  have D := (N (dx, od) (by simp)).1
  have D' := (U2 (dx, od') (by simp)).1
  obtain ⟨hx, -, -, -⟩ := I
  refine wpAny_bind (wpAny_pure (wpAny_bind (wpAny_bind (wpAny_loadPart hx (wpAny_bind ((looks_clsIn X hc).here ?_))))))
  rw [hd']
  refine wpAny_pure (a := some dx) (wpAny_bind (wpAny_pure (wpAny_bind ?_)))
  unfold nsSet
  refine wpAny_bind (wpAny_bind (wpAny_askSetting (wpAny_pure (wpAny_bind (wpAny_mkText (wpAny_bind (wpAny_loadPart D ?_)))))))
  unfold lookIn at hl
  split at hl
  · rename_i es₀ n₀ q
    rw [q]
    dsimp only
    have c : (!es₀.any (·.key.isStr name) && es₀.any (·.refKey)) = false := by
      rw [← Array.any_toList, ← Array.any_toList]
      split at hl
      · rename_i en he
        rw [List.any_eq_true.mpr ⟨en, List.mem_of_find?_eq_some he, List.find?_some he⟩]; rfl
      · split at hl
        · cases hl
        · rename_i z; rw [Bool.not_eq_true] at z; rw [z, Bool.and_false]
    rw [aRefKeyMayBeTheName_at, c]
    refine wpAny_updatePart D ?_
    refine wpAny_bind (wpAny_lookBehind D' (by rw [e']; exact pastItsLine_dict (by rw [List.size_toArray, sizeLine_eq]; omega)) ?_)
    exact wpAny_pure (h _ U1 U2)
  · cases hl

theorem exc_set {es es' : List DictEntry} {n n' : Nat} {name : Str} {v : Value} {Q : Unit → Shared → Prop} (F : Fr h₀ L s.heap m) (X₀ : K.In h₀) (N : News h₀ L s.heap news) (I : InstAt s.heap x (excObj C (some dx) ta) C (some (dictOf es n)))
    (hs : findIn K (.ref C) "__setattr__" = some (some (.builtin "object.__setattr__"))) (hp : excOver K C = true) (ht : takerIn K C name = some none) (hh : hasDictIn K C = true) (hl : (getL name es).isSome = true)
    (e : (putL name (PyData.keyHash w.params name) (.str name (s.toks + 1)) v es, putN name es n) = (es', n')) (U : Upd dx (dictOf es n) (dictOf es' n') news news') (hz : es'.length ≤ 1000)
    (h : ∀ h', Fr h₀ L h' m → News h₀ L h' news' → Q () { s with heap := h', toks := s.toks + 2 }) :
    wpAny (model prog w) A (setAttr (.ref x) name v) Q E s := by
  obtain ⟨pre, post, rfl, rfl, a, b⟩ := U.split
  obtain ⟨e1, e2⟩ := Prod.mk.inj e
  exact set_plain (X₀.keeps F.keep) I hs (exc_osa_dict (s := { s with toks := s.toks + 1 }) F N (X₀.keeps F.keep) I hp ht hh hl a b (by rw [putName_dict, e1, e2]) rfl hz fun h' F' N' => h h' F' N')

/-- the first store makes the dict -/
theorem exc_set0 {news' : Addr → List (Addr × Obj)} {name : Str} {v : Value} {Q : Unit → Shared → Prop} (F : Fr h₀ L s.heap m) (X₀ : K.In h₀) (N : News h₀ L s.heap news) (hx : (x, excObj C none ta) ∈ news)
    (hs : findIn K (.ref C) "__setattr__" = some (some (.builtin "object.__setattr__"))) (hp : excOver K C = true) (ht : takerIn K C name = some none) (hh : hasDictIn K C = true)
    (U : ∀ d, Upd x (excObj C none ta) (excObj C (some d) ta) news (news' d))
    (h : ∀ d h', Fr h₀ L h' m → News h₀ L h' ((d, dictOf [⟨PyData.keyHash w.params name, .str name (s.toks + 1), v⟩] 1) :: news' d) → (∀ p ∈ news, p.1 < d) → Q () { s with heap := h', toks := s.toks + 2 }) :
    wpAny (model prog w) A (setAttr (.ref x) name v) Q E s := by
  have I := InstAt.of_exc0 N hx
  have X := X₀.keeps F.keep
  refine set_plain X I hs (exc_osa_open (s := { s with toks := s.toks + 1 }) X I hp ht fun b => ?_)
  obtain ⟨pre, post, e1, e2, a, b⟩ := (U s.heap.objs.size).split
  obtain ⟨cd, hc, hd'⟩ := any_some hh
  have hxx := I.at_
  refine wpAny_bind (wpAny_pure (wpAny_bind (wpAny_bind (wpAny_loadPart hxx (wpAny_bind (looks_clsIn X hc _ _ _ _ (fun _ _ e => e) ?_))))))
  rw [hd']
  have F1 := F.push emptyDict
  have N1 : News h₀ L (s.heap.push emptyDict) ((s.heap.objs.size, emptyDict) :: news) := N.push F emptyDict
  rw [e1] at N1
  have hlt : ∀ p ∈ news, p.1 < s.heap.objs.size := fun p hp => Heap.lt_size (N p hp).1
  have hxn : s.heap.objs.size ≠ x := fun z => absurd (hlt _ hx) (by rw [← z]; exact Nat.lt_irrefl _)
  obtain ⟨U1, U2⟩ := news_upd (pre := (s.heap.objs.size, emptyDict) :: pre) (f := fun o => { o with dict := some s.heap.objs.size }) F1 N1 (fun p hp => by rcases List.mem_cons.mp hp with rfl | hp; exact hxn; exact a p hp) b (o' := excObj C (some s.heap.objs.size) ta) rfl rfl
  refine wpAny_bind (wpAny_alloc (wpAny_bind (wpAny_update (Heap.get?_push_of_some _ hxx) ?_)))
  refine wpAny_pure (a := some s.heap.objs.size) (wpAny_bind (wpAny_pure (wpAny_bind ?_)))
  have D := (U2 (s.heap.objs.size, emptyDict) (by simp)).1
  have he : Obj.putName name (PyData.keyHash w.params name) (.str name (s.toks + 1)) v (dictOf [] 0) = dictOf [⟨PyData.keyHash w.params name, .str name (s.toks + 1), v⟩] 1 := by rw [putName_dict]; rfl
  obtain ⟨V1, V2⟩ := news_upd (pre := []) (d := s.heap.objs.size) (o := dictOf [] 0) (f := Obj.putName name (PyData.keyHash w.params name) (.str name (s.toks + 1)) v) U1 U2 (fun _ hp => nomatch hp)
    (fun p hp => by
      rcases List.mem_append.mp hp with hp | hp
      · exact Nat.ne_of_lt (hlt p (by rw [e1]; exact List.mem_append.mpr (.inl hp)))
      · rcases List.mem_cons.mp hp with rfl | hp
        · exact Ne.symm hxn
        · exact Nat.ne_of_lt (hlt p (by rw [e1]; exact List.mem_append.mpr (.inr (.tail _ hp))))) he rfl
  have D' := (V2 (s.heap.objs.size, dictOf [⟨PyData.keyHash w.params name, .str name (s.toks + 1), v⟩] 1) (.head _)).1
  unfold nsSet
  refine wpAny_bind (wpAny_bind (wpAny_askSetting (wpAny_pure (wpAny_bind (wpAny_mkText (wpAny_bind (wpAny_loadPart D ?_)))))))
  dsimp only
  have c : (!(#[] : Array DictEntry).any (·.key.isStr name) && (#[] : Array DictEntry).any (·.refKey)) = false := by simp
  rw [aRefKeyMayBeTheName_at, c]
  refine wpAny_updatePart D ?_
  refine wpAny_bind (wpAny_lookBehind D' (pastItsLine_dict (by rw [List.size_toArray, sizeLine_eq]; simp)) ?_)
  refine wpAny_pure (h s.heap.objs.size _ V1 ?_ hlt)
  rw [e2]
  exact V2
end
end Mine
end
section
open PySem PySem.W PySem.Calls PyProof.Rows PySem.Builtin PySem.Builtin.ObjectAttr PySem.Builtin.Getset_descriptor
set_option Elab.async false
set_option maxRecDepth 100000
set_option maxHeartbeats 4000000
namespace Mine
theorem entry_gss : entryFor table "getset_descriptor.__set__" = some Builtin.«getset_descriptor.__set__» := entryFor_of_tree (by kernel_rfl)
theorem entry_ba_set : entryFor table "BaseException.args#set" = some Builtin.«BaseException.args#set» := entryFor_of_tree (by kernel_rfl)
theorem args_gss (a b c : Value) : argsOk "getset_descriptor.__set__" ⟨[a, b, c], []⟩ := by unfold argsOk; kernel_rfl
theorem owner_bargs : descrOwnerAndName "BaseException.args" = ("BaseException", "args") := by unfold descrOwnerAndName; rw [show "BaseException.args".cutAt '.' = ["BaseException", "args"] from by first | rfl | decide +kernel]; decide +kernel
section
variable {prog : Program} {w : World} {A : Around} {E : Value → Shared → Prop} {K : Frag} {C x dx ta tv : Addr} {s : Shared} {h₀ : Heap} {L : Addr} {m : Str → Option Value} {news news' : List (Addr × Obj)} {R : Result → Shared → Prop} {d : Option Addr} {news'' : Addr → List (Addr × Obj)}

theorem exc_put {Q : Unit → Shared → Prop} (F : Fr h₀ L s.heap m) (N : News h₀ L s.heap news) (U : Upd x (excObj C d ta) (excObj C d tv) news news')
    (h : ∀ h', Fr h₀ L h' m → News h₀ L h' news' → Q () { s with heap := h' }) : wpAny (model prog w) A (Builtin.BaseException.bexcPut (.ref x) 0 (.ref tv)) Q E s := by
  obtain ⟨pre, post, rfl, rfl, a, b⟩ := U.split
  obtain ⟨U1, U2⟩ := news_upd (f := Obj.mapFields (·.setIfInBounds 0 (.ref tv))) F N a b (o' := excObj C d tv) rfl rfl
  have hx : s.heap.get? x = some (excObj C d ta) := (N (x, excObj C d ta) (by simp)).1
  unfold Builtin.BaseException.bexcPut
  refine wpAny_bind (wpAny_field hx rfl (x := .ref ta) rfl (wpAny_bind (wpAny_setField hx rfl (show 0 < 6 by decide) ?_)))
  exact wpAny_letGo (h _ U1 U2)

theorem exc_set_args {its : Array Value} {od : Option Obj} {Q : Unit → Shared → Prop} (F : Fr h₀ L s.heap m) (X₀ : K.In h₀) (N : News h₀ L s.heap news) (I : InstAt s.heap x (excObj C d ta) C od) (ht : s.heap.IsTuple tv its)
    (hs : findIn K (.ref C) "__setattr__" = some (some (.builtin "object.__setattr__"))) (hp : excOver K C = true) (hk : takerIn K C "args" = some (some (.builtin "BaseException.args"))) (hB : subIn K (.ref C) (.type "BaseException") = some true)
    (U : Upd x (excObj C d ta) (excObj C d tv) news news')
    (h : ∀ h', Fr h₀ L h' m → News h₀ L h' news' → Q () { s with heap := h', toks := s.toks + 1 }) : wpAny (model prog w) A (setAttr (.ref x) "args" (.ref tv)) Q E s := by
  have X := X₀.keeps F.keep
  refine set_plain X I hs (exc_osa_open (s := { s with toks := s.toks + 1 }) X I hp hk fun b => ?_)
  have S := PySem.F.slot_gs_set
  have hty : typeOf (.builtin "BaseException.args") = pure (.type "getset_descriptor") := PySem.F.typeOf_bexc_args
  refine wpAny_bind (wpAny_rule (wpAny_bind (wpAny_holding (wpAny_bind (wpAny_bind ((Looks.of_pure hty) _ _ _ _ (fun _ _ e => e) ((Looks.of_pure S.lookup) _ _ _ _ (fun _ _ e => e) (wpAny_holding ?_))))))))
  rw [S.bind]
  refine wpAny_bind (wpAny_pure (wpAny_bind (wpAny_call ?_)))
  have hT : ({ s with toks := s.toks + 1 } : Shared).TypeIs (.builtin "BaseException.args") "getset_descriptor" := PySem.F.typeOf_bexc_args
  refine codeAny_call_builtin S.plain entry_gss (S.check _ _ _ _ _ _ _ _ hT (args_gss _ _ _) ?_)
  show wpAny _ _ (descrStoreThrough "getset" (.builtin "BaseException.args") (.ref x) (some (.ref tv))) _ _ _
  unfold descrStoreThrough descrCheckInstance descrNameAndClass isInstance
  simp only [owner_bargs]
  refine wpAny_bind (wpAny_bind (wpAny_pure (wpAny_bind (wpAny_bind (I.type _ _ _ _ (fun _ _ e => e) (looks_subIn X hB _ _ _ _ (fun _ _ e => e) ?_))))))
  refine wpAny_pure (wpAny_bind (wpAny_pure ?_))
  refine wpAny_pure (And.intro (Code.quiet_builtin _ (by decide +kernel)) (codeAny_builtin entry_ba_set ?_))
  unfold Builtin.«BaseException.args#set»
  refine wpAny_bind (call_tuple_same (s := { s with toks := s.toks + 1 }) ht (wpAny_bind (exc_put (s := { s with toks := s.toks + 1 }) F N U fun h' F' N' => ?_)))
  exact wpAny_pure (wpAny_pure (wpAny_pure (h h' F' N')))

theorem exc_init_call {v : Value} {od : Option Obj} {Q : Value → Shared → Prop} (F : Fr h₀ L s.heap m) (X₀ : K.In h₀) (N : News h₀ L s.heap news) (I : InstAt s.heap x (excObj C d ta) C od)
    (hE : subIn K (.ref C) (.type "Exception") = some true) 
    (U : ∀ t, Upd x (excObj C d ta) (excObj C d t) news (news'' t))
    (h : ∀ t h', Fr h₀ L h' m → News h₀ L h' ((t, tupObj [v]) :: news'' t) → (∀ p ∈ news, p.1 < t) → Q .none { s with heap := h' }) : wpAny (model prog w) A (call (.builtin "Exception.__init__") [.ref x, v]) Q E s := by
  have X := X₀.keeps F.keep
  have FE := PySem.F.excBase_Exception
  obtain ⟨hh, g, dr, t, os⟩ := s
  refine wpAny_call (codeAny_call_builtin FE.init.plain FE.initEntry ?_)
  have hshort := FE.noStar
  have t1 := I.type (M := model prog w)
  have s1 := looks_subIn (M := model prog w) X hE
  obtain ⟨cd, hcd⟩ : ∃ cd, clsIn K C = some cd := by
    unfold subIn mroIn at hE
    cases q : clsIn K C with
    | none => simp only [q] at hE; cases hE
    | some cd => exact ⟨cd, rfl⟩
  have c1 := looks_clsIn (M := model prog w) X hcd
  simp only [checkBuiltinCall, FE.initKind, FE.initSplit, FE.initRow]
  unfold isInstance
  dsimp only at t1 s1 c1
  repeat lk
  have F1 := F.push (tupObj [v])
  have N1 : News h₀ L (hh.push (tupObj [v])) ((hh.objs.size, tupObj [v]) :: news) := N.push F (tupObj [v])
  have hlt : ∀ p ∈ news, p.1 < hh.objs.size := fun p hp => Heap.lt_size (N p hp).1
  obtain ⟨pre, post, e1, e2, a, b⟩ := (U hh.objs.size).split
  have hx : (hh.push (tupObj [v])).get? x = some (excObj C d ta) := Heap.get?_push_of_some _ I.at_
  have hxn : hh.objs.size ≠ x := fun z => absurd (Heap.lt_size I.at_) (by rw [← z]; exact Nat.lt_irrefl _)
  rw [e1] at N1
  obtain ⟨U1, U2⟩ := news_upd (pre := (hh.objs.size, tupObj [v]) :: pre) (f := Obj.mapFields (·.setIfInBounds 0 (.ref hh.objs.size))) F1 N1 (fun p hp => by rcases List.mem_cons.mp hp with rfl | hp; exact hxn; exact a p hp) b (o' := excObj C d hh.objs.size) rfl rfl
  refine nd_load hx (wpAny_pure (wpAny_pure (wpAny_pure (a := Value.ref ta) (wpAny_bind (wpAny_setField hx rfl (show 0 < 6 by decide) (wpAny_letGo (wpAny_pure ?_)))))))
  refine h hh.objs.size _ U1 ?_ hlt
  rw [e2]
  exact U2
end
end Mine
end
section
open PySem PySem.W PySem.Calls PyProof.Rows PySem.Builtin PySem.Builtin.ObjectAttr PySem.Builtin.Getset_descriptor
set_option Elab.async false
set_option maxRecDepth 100000
set_option maxHeartbeats 4000000
namespace Mine
theorem bga_kind : builtinKind "BaseException.__getattribute__" = some .slot := by decide +kernel
theorem bga_split : splitId "BaseException.__getattribute__" = some ("BaseException", "__getattribute__") := by decide +kernel
theorem bga_plain : plainId "BaseException.__getattribute__" = true := by decide +kernel
theorem bga_bind (self : Value) : bindSpecial (.builtin "BaseException.__getattribute__") self = pure (.builtin "BaseException.__getattribute__", [self]) := PySem.F.excAttr_ValueError.ga.bind self
def excGet (K : Frag) (C : Addr) : Bool := findIn K (.ref C) "__getattribute__" == some (some (.builtin "BaseException.__getattribute__")) && findIn K (.ref C) "__getattr__" == some none && subIn K (.ref C) (.type "BaseException") == some true
section
variable {prog : Program} {w : World} {A : Around} {E : Value → Shared → Prop} {s : Shared} {K : Frag} {x C ta : Addr} {ox : Obj} {od : Option Obj} {name : Str} {expr : Bool} {Q : Value → Shared → Prop}
theorem exc_get_open {r : Found} (X : K.In s.heap) (I : InstAt s.heap x ox C od) (hg : excGet K C = true) (hf : findObj K C od name = some r)
    (h : codeAny (model prog w) A (.call (.builtin "BaseException.__getattribute__") ⟨[.ref x, .str name s.toks], []⟩) (fun r s' => match r with | .ok (.ret v) => wpAny (model prog w) A (handedOut v) Q E s' | _ => False) { s with toks := s.toks + 1 }) :
    wpAny (model prog w) A (getAttr (.ref x) name expr) Q E s := by
  simp only [excGet, Bool.and_eq_true, beq_iff_eq] at hg
  obtain ⟨⟨h1, h2⟩, h3⟩ := hg
  obtain ⟨hh, g, d, t, os⟩ := s
  have L0 := I.type (M := model prog w)
  have L1 := looks_findIn (M := model prog w) X h1
  have L2 := looks_findIn (M := model prog w) X h2
  unfold getAttr getAttrBy
  refine wpAny_bind (wpAny_mkText (wpAny_holding (wpAny_bind (L0.at (wpAny_bind (L1.at ?_))))))
  dsimp only
  rw [show (onTheHeap (Value.ref C) && Value.builtin "BaseException.__getattribute__" == Value.builtin "object.__getattribute__") = false from by rw [show (Value.builtin "BaseException.__getattribute__" == Value.builtin "object.__getattribute__") = false from by decide +kernel, Bool.and_false], if_neg (by decide)]
  unfold getAttrByItsOwn
  refine wpAny_bind (L2.at (wpAny_bind (wpAny_attempt (wpAny_holding ?_))))
  unfold callGetattribute
  rw [show (expr && onTheHeap (Value.builtin "BaseException.__getattribute__")) = false from Bool.and_false _, if_neg (by decide)]
  unfold boundAndCalled
  rw [bga_bind]
  refine wpAny_bind (wpAny_pure (wpAny_call (codeAny_mono h fun r s' z => ?_)))
  rcases r with e | (v | _ | _ | _) <;> first | exact z | exact z.elim

theorem exc_get {v : Value} (X : K.In s.heap) (I : InstAt s.heap x ox C od) (hg : excGet K C = true) (hf : findObj K C od name = some (.value v)) (hv : handedIn v = true)
    (h : Q v { s with toks := s.toks + 1 }) : wpAny (model prog w) A (getAttr (.ref x) name expr) Q E s := by
  refine exc_get_open X I hg hf ?_
  simp only [excGet, Bool.and_eq_true, beq_iff_eq] at hg
  obtain ⟨⟨h1, h2⟩, h3⟩ := hg
  obtain ⟨hh, g, d, t, os⟩ := s
  have L0 := I.type (M := model prog w)
  have L3 := looks_subIn (M := model prog w) X h3
  have L1 := looks_find (M := model prog w) X I hf
  refine codeAny_call_builtin bga_plain PySem.F.entry_bexc_ga (@check_slot (model prog w) _ _ ⟨hh, g, d, t + 1, os⟩ "BaseException.__getattribute__" "BaseException" "__getattribute__" (.ref x) [.str name t] [] _ bga_kind bga_split (L0.andThen L3) (PySem.F.args_bexc_ga _ _) ?_)
  unfold Builtin.«object.__getattribute__»
  refine wpAny_bind (wpAny_pure (wpAny_bind (wpAny_pure (wpAny_bind (L0.at (wpAny_bind (L1.at ?_)))))))
  refine wpAny_pure ?_
  show wpAny _ _ (handedOut v) _ _ _
  rw [handedOut_of hv]; exact wpAny_pure h

theorem exc_get_args {d : Option Addr} (X : K.In s.heap) (I : InstAt s.heap x (excObj C d ta) C od) (hg : excGet K C = true) (hf : findObj K C od "args" = some (.bind (.builtin "getset_descriptor.__get__") (.builtin "BaseException.args")))
    (h : Q (.ref ta) { s with toks := s.toks + 1 }) : wpAny (model prog w) A (getAttr (.ref x) "args" expr) Q E s := by
  refine exc_get_open X I hg hf ?_
  simp only [excGet, Bool.and_eq_true, beq_iff_eq] at hg
  obtain ⟨⟨h1, h2⟩, h3⟩ := hg
  obtain ⟨hh, g, dr, t, os⟩ := s
  have L0 := I.type (M := model prog w)
  have L3 := looks_subIn (M := model prog w) X h3
  have L1 := looks_find (M := model prog w) X I hf
  have hx := I.at_
  refine codeAny_call_builtin bga_plain PySem.F.entry_bexc_ga (@check_slot (model prog w) _ _ ⟨hh, g, dr, t + 1, os⟩ "BaseException.__getattribute__" "BaseException" "__getattribute__" (.ref x) [.str "args" t] [] _ bga_kind bga_split (L0.andThen L3) (PySem.F.args_bexc_ga _ _) ?_)
  unfold Builtin.«object.__getattribute__»
  refine wpAny_bind (wpAny_pure (wpAny_bind (wpAny_pure (wpAny_bind (L0.at (wpAny_bind (L1.at ?_)))))))
  show wpAny _ _ (holding [.builtin "BaseException.args"] (call (.builtin "getset_descriptor.__get__") [.builtin "BaseException.args", .ref x, .ref C]) >>= ret) _ _ _
  refine wpAny_bind (wpAny_holding (wpAny_call ?_))
  have hT5 : (⟨hh, g, dr, t + 1, os⟩ : Shared).TypeIs (.builtin "BaseException.args") "getset_descriptor" := PySem.F.typeOf_bexc_args
  refine codeAny_call_builtin PySem.F.slot_gs_get.plain PySem.F.entry_gs_get (PySem.F.slot_gs_get.check _ _ _ _ _ _ _ _ hT5 (PySem.F.args_gs_get _ _ _) ?_)
  have L4 : Looks (model prog w) hh (isSubtype (.ref C) (.type (".".intercalate ("BaseException.args".cutAt '.').dropLast))) true := by rw [PySem.F.owner_bexc_args]; exact L3
  dsimp only at L0
  unfold Builtin.«getset_descriptor.__get__» descrGet descrGetArgs
  dsimp only
  repeat lk
  refine ⟨Code.quiet_builtin _ (by decide +kernel), codeAny_builtin PySem.F.entry_bexc_args ?_⟩
  unfold Builtin.«BaseException.args»
  refine wpAny_bind (wpAny_field hx rfl (x := .ref ta) rfl ?_)
  exact wpAny_pure (wpAny_pure (wpAny_pure h))
end
end Mine
end
section
open PySem PySem.W PySem.Calls PyProof.Rows
set_option Elab.async false
set_option maxRecDepth 100000
set_option maxHeartbeats 4000000
namespace Mine
def AD (d u : Nat) : Around := { handled := none, depth := d, frames := none, guards := some [], units := u }
theorem weaken {α : Type} {M : Model} {A : Around} {d u : Nat} {t : Sem α} {Q : α → Shared → Prop} {E : Value → Shared → Prop} {s : Shared} (h1 : A.handled = none) (hg : A.guards = some []) (h2 : A.depth ≤ d) (h3 : A.units ≤ u) (h : wpAny M (AD d u) t Q E s) : wpAny M A t Q E s :=
  fun Γ p hΓ => h Γ p ⟨hΓ.1.trans h1, Nat.le_trans hΓ.2.1 h2, (by intro _ e; cases e), (by intro g e; exact hΓ.2.2.2.1 g (hg.trans e)), Nat.le_trans hΓ.2.2.2.2 h3⟩
abbrev Grow (h h' : Heap) : Prop := ∀ b o, h.get? b = some o → h'.get? b = some o
section
variable {prog : Program} {w : World} {A : Around} {K : Frag} {s : Shared} {h₀ : Heap} {L : Addr} {m : Str → Option Value} {news : List (Addr × Obj)} {R : Result → Shared → Prop}
  {name qual : Str} {params : Arguments} {body : List Stmt} {scope : Scope} {dV kV doc pm cdv ct oc : Value} {an od : Option Addr} {osl : Array (Option Value)} {f : Addr} {args : Args} {binds : List (Str × Value)}
/-- enter a def: what stands in h₀ is kept, the objects of the ledger may change -/
theorem enter_new (G : Grow h₀ s.heap) (hz : h₀.objs.size ≤ s.heap.objs.size) (X₀ : K.In h₀) (hlim : h₀.NoLimit) (N : ∀ p ∈ news, s.heap.get? p.1 = some p.2 ∧ h₀.get? p.1 = none)
    (ho : K.lookup f = some ⟨oc, od, .func (fnOf name qual params body scope dV kV doc pm an cdv ct), osl⟩) (hcd : codeIn K cdv qual = true) (hroom : A.depth < recursionLimit)
    (hbind : BindsTo s (fnOf name qual params body scope dV kV doc pm an cdv ct) args binds) (hloc : ∀ y ∈ binds, scope.names.lookup y.1 = some .local)
    (hco : scope.isCoroutine = false) (hgen : scope.isGenerator = false) (hk : scope.kind = .function) (hcell : ∀ x ∈ scope.names, x.2 ≠ .cell)
    (h : ∀ L' h₁ tk, Fr h₀ L' h₁ (fun y => binds.reverse.lookup y) → News h₀ L' h₁ news → (∀ p ∈ news, p.1 < L') → 
      wpAny (model prog w) (A.deeper (envOf qual scope L' f cdv)) (execs body (envOf qual scope L' f cdv)) (fun fl s' => R (.ok (.ret (match fl with | .ret v => v | _ => .none))) s') (fun _ _ => False)
        { s with heap := h₁, toks := tk }) : codeAny (model prog w) A (.call (.ref f) args) R s := by
  have X := X₀.keeps G
  refine codeAny_call_def (fd := fnOf name qual params body scope dV kV doc pm an cdv ct) (body := body) (binds := binds) hroom (X _ _ ho) rfl (hlim.keeps G) (codeRec_of X hcd) rfl hbind hcell hloc (fun h₁ hns hk₁ => ?_) hco hgen hk
  refine wpAny_mono (h s.heap.objs.size h₁ _ ⟨hns, fun b o e => hk₁ b o (G b o e), hz⟩ (fun p hp => ⟨hk₁ _ _ (N p hp).1, Nat.ne_of_lt (Heap.lt_size (N p hp).1), (N p hp).2⟩) fun p hp => Heap.lt_size (N p hp).1) (fun _ _ z => z) fun _ _ z => z.elim

/-- the way back into a frame -/
def BackIn (h₀ : Heap) (L : Addr) (m : Str → Option Value) (oL : Obj) (R : Result → Shared → Prop) (v : Value) (s' : Shared) : Prop := (∀ h', h'.get? L = some oL → Grow h₀ h' → Fr h₀ L h' m) → R (.ok (.ret v)) s'
def AllNe (d : Nat) : List (Addr × Obj) → Prop
  | [] => True
  | p :: r => @Ne Nat p.1 d ∧ AllNe d r
theorem allNe_of {d : Addr} : ∀ {l : List (Addr × Obj)}, (∀ p ∈ l, p.1 ≠ d) → AllNe d l
  | [], _ => trivial
  | p :: _, h => ⟨h p (.head _), allNe_of fun q hq => h q (.tail _ hq)⟩
inductive Drop (L : Addr) (oL : Obj) : List (Addr × Obj) → List (Addr × Obj) → Prop
  | head {r} : (∀ p ∈ r, p.1 ≠ L) → Drop L oL ((L, oL) :: r) r
  | tail {p r r'} : p.1 ≠ L → Drop L oL r r' → Drop L oL (p :: r) (p :: r')
theorem Drop.mem {L : Addr} {oL : Obj} : ∀ {l l' : List (Addr × Obj)}, Drop L oL l l' → (L, oL) ∈ l
  | _, _, .head _ => .head _
  | _, _, .tail _ r => .tail _ r.mem
theorem Drop.sub {L : Addr} {oL : Obj} : ∀ {l l' : List (Addr × Obj)}, Drop L oL l l' → ∀ p ∈ l', p ∈ l ∧ p.1 ≠ L
  | _, _, .head h, p, hp => ⟨.tail _ hp, h p hp⟩
  | _, _, .tail h r, p, hp => by
    rcases List.mem_cons.mp hp with rfl | hp
    · exact ⟨.head _, h⟩
    · exact ⟨.tail _ (r.sub p hp).1, (r.sub p hp).2⟩
theorem back_ {oL : Obj} {L' : Addr} {m' : Str → Option Value} {news' news'' : List (Addr × Obj)} {v : Value} {s' : Shared} (F' : Fr h₀ L' s'.heap m') (N' : News h₀ L' s'.heap news') (D : Drop L oL news' news'')
    (h : Fr h₀ L s'.heap m → News h₀ L s'.heap news'' → R (.ok (.ret v)) s') : BackIn h₀ L m oL R v s' := fun hb =>
  h (hb _ (N' _ D.mem).1 F'.keep) fun p hp => ⟨(N' p (D.sub p hp).1).1, (D.sub p hp).2, (N' p (D.sub p hp).1).2.2⟩

/-- enter a def from within a frame: the frame's own object stands in the ledger -/
theorem enter_in (F : Fr h₀ L s.heap m) (X₀ : K.In h₀) (N : News h₀ L s.heap news) (hlim : h₀.NoLimit)
    (ho : K.lookup f = some ⟨oc, od, .func (fnOf name qual params body scope dV kV doc pm an cdv ct), osl⟩) (hcd : codeIn K cdv qual = true) (hroom : A.depth < recursionLimit)
    (hbind : BindsTo s (fnOf name qual params body scope dV kV doc pm an cdv ct) args binds) (hloc : ∀ y ∈ binds, scope.names.lookup y.1 = some .local)
    (hco : scope.isCoroutine = false) (hgen : scope.isGenerator = false) (hk : scope.kind = .function) (hcell : ∀ x ∈ scope.names, x.2 ≠ .cell)
    (h : ∀ oL L' h₁ tk, Fr h₀ L' h₁ (fun y => binds.reverse.lookup y) → News h₀ L' h₁ ((L, oL) :: news) → (∀ p ∈ (L, oL) :: news, p.1 < L') → (∀ p ∈ news, p.1 ≠ L) →
      wpAny (model prog w) (A.deeper (envOf qual scope L' f cdv)) (execs body (envOf qual scope L' f cdv)) (fun fl s' => BackIn h₀ L m oL R (match fl with | .ret v => v | _ => .none) s') (fun _ _ => False)
        { s with heap := h₁, toks := tk }) : codeAny (model prog w) A (.call (.ref f) args) R s := by
  obtain ⟨oL, es, ep, hL, r⟩ := F.ns
  have hn : h₀.get? L = none := by
    cases q : h₀.get? L with
    | none => rfl
    | some o => exact absurd (Heap.lt_size q) (Nat.not_lt.mpr F.above)
  refine enter_new (news := (L, oL) :: news) F.keep (Nat.le_of_lt (Nat.lt_of_le_of_lt F.above (Heap.lt_size hL))) X₀ hlim (fun p hp => ?_) ho hcd hroom hbind hloc hco hgen hk hcell fun L' h₁ tk F' N' l => wpAny_mono (h oL L' h₁ tk F' N' l fun p hp => (N p hp).2.1) (fun _ _ z => z fun h' e g => ⟨⟨oL, es, ep, e, r⟩, g, F.above⟩) fun _ _ z => z
  rcases List.mem_cons.mp hp with rfl | hp
  · exact ⟨hL, hn⟩
  · exact ⟨(N p hp).1, (N p hp).2.2⟩
end
end Mine
end
section
open PySem PySem.W PySem.Calls PyProof.Rows
set_option Elab.async false
set_option maxRecDepth 100000
set_option maxHeartbeats 4000000
namespace Mine
/-- what is written of v, in any heap that holds what hb holds -/
structure Reprs (prog : Program) (w : World) (hb : Heap) (v : Value) (t : Str) : Prop where
  call : ∀ (A : Around) (s : Shared) (Q E : Value → Shared → Prop), A.handled = none → A.guards = some [] → A.depth ≤ 800 → A.units ≤ 4000 → Grow hb s.heap →
    (∀ h' u tk, Grow s.heap h' → Q (.str t u) { s with heap := h', toks := tk }) → wpAny (model prog w) A (PySem.call (.builtin "repr") [v]) Q E s
  obj : ∀ (A : Around) (s : Shared) (Q E : Value → Shared → Prop), A.handled = none → A.guards = some [] → A.depth ≤ 800 → A.units ≤ 4000 → Grow hb s.heap →
    (∀ h' u tk, Grow s.heap h' → Q (.str t u) { s with heap := h', toks := tk }) → wpAny (model prog w) A (pyReprObj v) Q E s
  short : t.length ≤ 1000000
theorem Reprs.mono {prog : Program} {w : World} {hb h' : Heap} {v : Value} {t : Str} (r : Reprs prog w hb v t) (g : Grow hb h') : Reprs prog w h' v t :=
  ⟨fun A s Q E a b c d e f => r.call A s Q E a b c d (fun x o q => e x o (g x o q)) f, fun A s Q E a b c d e f => r.obj A s Q E a b c d (fun x o q => e x o (g x o q)) f, r.short⟩
def Fields (od : Obj) (fs : List (Str × Value)) : Prop := ∀ p ∈ fs, lookIn p.1 od = some (some p.2)
/-- an error, newly made -/
structure ErrNew (h h' : Heap) (C e d ta : Addr) (od : Obj) (msg : Str) (u : Tok) (fs : List (Str × Value)) (args : List Value) : Prop where
  he : h'.get? e = some (excObj C (some d) ta)
  hd : h'.get? d = some od
  ht : h'.get? ta = some (tupObj args)
  ne : h.get? e = none
  nd : h.get? d = none
  nt : h.get? ta = none
  hm : lookIn "message" od = some (some (.str msg u))
  hf : Fields od fs
/-- what a line number is told as -/
structure Lines (prog : Program) (w : World) (n : Int) (t : Str) : Prop where
  call : ∀ (A : Around) (s : Shared) (Q E : Value → Shared → Prop) (tk nt : Tok), A.handled = none → A.guards = some [] → A.depth ≤ 800 → A.units ≤ 4000 →
    (∀ h' u k, Grow s.heap h' → Q (.str t u) { s with heap := h', toks := k }) → wpAny (model prog w) A (PySem.call (.builtin "str.format") [.str (Str.ofString " [line {0:2d}]") tk, .int n nt]) Q E s
  short : t.length ≤ 1000
section
variable {prog : Program} {w : World} {A : Around} {E : Value → Shared → Prop} {s : Shared} {h₀ : Heap} {L : Addr} {m : Str → Option Value} {news : List (Addr × Obj)} {v : Value} {t : Str} {Q : Value → Shared → Prop}
theorem fr_grow {h h' : Heap} (F : Fr h₀ L h m) (g : Grow h h') : Fr h₀ L h' m := ⟨F.ns.keeps g, fun b o e => g b o (F.keep b o e), F.above⟩
theorem news_grow {h h' : Heap} (N : News h₀ L h news) (g : Grow h h') : News h₀ L h' news := fun p hp => ⟨g _ _ (N p hp).1, (N p hp).2⟩
theorem repr_use (r : Reprs prog w h₀ v t) (F : Fr h₀ L s.heap m) (N : News h₀ L s.heap news) (h1 : A.handled = none) (h2 : A.guards = some []) (h3 : A.depth ≤ 800) (h4 : A.units ≤ 4000)
    (h : ∀ h' u tk, Fr h₀ L h' m → News h₀ L h' news → Q (.str t u) { s with heap := h', toks := tk }) : wpAny (model prog w) A (call (.builtin "repr") [v]) Q E s :=
  r.call A s Q E h1 h2 h3 h4 F.keep fun h' u tk g => h h' u tk (fr_grow F g) (news_grow N g)
theorem isTup_of {h : Heap} {a : Addr} {vs : List Value} (N : News h₀ L h news) (hm : (a, ({ cls := .type "tuple", data := .seq vs.toArray } : Obj)) ∈ news) : h.IsTuple a vs.toArray := ⟨_, (N _ hm).1, rfl, _, rfl⟩
theorem meta_Exception : typeOf (.type "Exception") = pure (.type "type") := by first | rfl | kernel_rfl
theorem line_use {n : Int} {tk nt : Tok} (r : Lines prog w n t) (F : Fr h₀ L s.heap m) (N : News h₀ L s.heap news) (h1 : A.handled = none) (h2 : A.guards = some []) (h3 : A.depth ≤ 800) (h4 : A.units ≤ 4000)
    (h : ∀ h' u tk, Fr h₀ L h' m → News h₀ L h' news → Q (.str t u) { s with heap := h', toks := tk }) : wpAny (model prog w) A (call (.builtin "str.format") [.str (Str.ofString " [line {0:2d}]") tk, .int n nt]) Q E s :=
  r.call A s Q E tk nt h1 h2 h3 h4 fun h' u tk g => h h' u tk (fr_grow F g) (news_grow N g)
theorem isNot_none (hv : v ≠ .none) (q : Q (.bool true) s) : wpAny (model prog w) A (compareOp .IsNot v .none) Q E s :=
  isnot_none_gen (by rw [show (v == Value.none) = false from beq_eq_false_iff_ne.mpr hv]; exact q)
theorem err_close {h' : Heap} {C e d ta : Addr} {od : Obj} {msg : Str} {u : Tok} {fs : List (Str × Value)} {args : List Value} (N : News h₀ L h' news) (h1 : (e, excObj C (some d) ta) ∈ news) (h2 : (d, od) ∈ news) (h3 : (ta, tupObj args) ∈ news)
    (hm : lookIn "message" od = some (some (.str msg u))) (hf : Fields od fs) : ErrNew h₀ h' C e d ta od msg u fs args := ⟨(N _ h1).1, (N _ h2).1, (N _ h3).1, (N _ h1).2.2, (N _ h2).2.2, (N _ h3).2.2, hm, hf⟩
theorem made_grow (h : Heap) (o o' : Obj) : Grow h ((h.push o).push o') := fun _ _ e => Heap.get?_push_of_some _ (Heap.get?_push_of_some _ e)
theorem made_news (h : Heap) (C : Addr) (vs : List Value) : ∀ p ∈ [(h.objs.size + 1, excObj C none h.objs.size), (h.objs.size, tupObj vs)], ((h.push (tupObj vs)).push (excObj C none h.objs.size)).get? p.1 = some p.2 ∧ h.get? p.1 = none := by
  intro p hp
  rcases List.mem_cons.mp hp with rfl | hp
  · exact ⟨by heap_get, Heap.get?_none_of_le (Nat.le_succ _)⟩
  · rcases List.mem_singleton.mp hp with rfl
    exact ⟨Heap.get?_push_of_some _ (Heap.get?_push_size _ rfl), Heap.get?_none_of_le (Nat.le_refl _)⟩
end
end Mine
end
section
open PySem PySem.W PySem.Calls PyProof.Rows
set_option Elab.async false
set_option maxRecDepth 100000
set_option maxHeartbeats 4000000
namespace Mine
section
variable {prog : Program} {w : World} {A : Around} {E : Value → Shared → Prop} {s : Shared} {h₀ : Heap} {L : Addr} {m : Str → Option Value} {news : List (Addr × Obj)} {v : Value} {t : Str} {Q : Value → Shared → Prop} {K : Frag}
theorem reprs_str {hb : Heap} {x : Str} {t : Tok} (hl : (reprText x).length ≤ 1000000) : Reprs prog w hb (.str x t) (reprText x) where
  call := fun A s Q E _ _ _ _ _ h => P.repr_of_str (h s.heap _ _ fun _ _ e => e) (by rw [sizeLine_eq]; omega)
  obj := fun A s Q E _ _ _ _ _ h => wpAny_pyReprObj_str (h s.heap _ _ fun _ _ e => e) (by rw [sizeLine_eq]; omega)
  short := hl

/-- an error that a contract makes, taken into a frame's ledger -/
theorem err_use {f : Value} {vs : List Value} {kw : List (Str × Value)} {C : Addr} {msg : Str} {fs : List (Str × Value)} {args : List Value}
    (c : ∀ Q E, (∀ h' tk e d ta od u, Grow s.heap h' → ErrNew s.heap h' C e d ta od msg u fs args → Q (.ref e) { s with heap := h', toks := tk }) → wpAny (model prog w) (AD 600 2000) (call f vs kw) Q E s)
    (F : Fr h₀ L s.heap m) (N : News h₀ L s.heap news) (h1 : A.handled = none) (h2 : A.guards = some []) (h3 : A.depth ≤ 600) (h4 : A.units ≤ 2000)
    (h : ∀ h' tk e d ta od u, Fr h₀ L h' m → News h₀ L h' ((e, excObj C (some d) ta) :: (d, od) :: (ta, tupObj args) :: news) → AllNe e news → AllNe d news → AllNe ta news → lookIn "message" od = some (some (.str msg u)) → Fields od fs → Q (.ref e) { s with heap := h', toks := tk }) :
    wpAny (model prog w) A (call f vs kw) Q E s := by
  refine weaken h1 h2 h3 h4 (c Q E fun h' tk e d ta od u g n => ?_)
  have hL : ∀ a, s.heap.get? a = none → a ≠ L := fun a ha z => by
    obtain ⟨o, _, _, ho, _⟩ := F.ns
    rw [z, ho] at ha; cases ha
  have h0 : ∀ a, s.heap.get? a = none → h₀.get? a = none := fun a ha => by
    cases q : h₀.get? a with
    | none => rfl
    | some o => rw [F.keep _ _ q] at ha; cases ha
  have hne : ∀ a, s.heap.get? a = none → AllNe a news := fun a ha => allNe_of fun p hp z => by
    have := (N p hp).1
    rw [z, ha] at this; cases this
  refine h h' tk e d ta od u (fr_grow F g) ?_ (hne _ n.ne) (hne _ n.nd) (hne _ n.nt) n.hm n.hf
  intro p hp
  rcases List.mem_cons.mp hp with rfl | hp
  · exact ⟨n.he, hL _ n.ne, h0 _ n.ne⟩
  rcases List.mem_cons.mp hp with rfl | hp
  · exact ⟨n.hd, hL _ n.nd, h0 _ n.nd⟩
  rcases List.mem_cons.mp hp with rfl | hp
  · exact ⟨n.ht, hL _ n.nt, h0 _ n.nt⟩
  · exact news_grow N g p hp

/-- a field of an error in the ledger -/
theorem err_get {expr : Bool} {C x d ta : Addr} {od : Obj} {name : Str} {attr : Option Value} (F : Fr h₀ L s.heap m) (X₀ : K.In h₀) (N : News h₀ L s.heap news) (h1 : (x, excObj C (some d) ta) ∈ news) (h2 : (d, od) ∈ news) (hg : excGet K C = true)
    (hh : hasDictIn K C = true) (ha : findIn K (.ref C) name = some attr) (hn : noGet K attr = true) (hl : lookIn name od = some (some v)) (hv : handedIn v = true) (h : Q v { s with toks := s.toks + 1 }) :
    wpAny (model prog w) A (getAttr (.ref x) name expr) Q E s :=
  exc_get (X₀.keeps F.keep) (InstAt.of_exc N h1 h2) hg (findObj_own hh ha hn hl) hv h
theorem err_args {expr : Bool} {C x d ta : Addr} {od : Obj} (F : Fr h₀ L s.heap m) (X₀ : K.In h₀) (N : News h₀ L s.heap news) (h1 : (x, excObj C (some d) ta) ∈ news) (h2 : (d, od) ∈ news) (hg : excGet K C = true)
    (hc : (clsIn K C).isSome = true) (ha : findIn K (.ref C) "args" = some (some (.builtin "BaseException.args"))) (hs : specialIn K (.builtin "BaseException.args") "__get__" = some (some (.builtin "getset_descriptor.__get__"))) (ht : takesIn K (.builtin "BaseException.args") = some true)
    (h : Q (.ref ta) { s with toks := s.toks + 1 }) : wpAny (model prog w) A (getAttr (.ref x) "args" expr) Q E s :=
  exc_get_args (X₀.keeps F.keep) (InstAt.of_exc N h1 h2) hg (findObj_data hc ha hs ht) h
end
end Mine
end
section
open PySem PySem.W PySem.Calls PyProof.Rows Builtin Builtin.Str Builtin.Int Builtin.Float
set_option Elab.async false
set_option maxRecDepth 100000
set_option maxHeartbeats 4000000
namespace Mine
theorem ifno {M : Model} {A : Around} {E : Value → Shared → Prop} {s : Shared} {α : Type} {c : Prop} {d : Decidable c} {a b : Sem α} {Q : α → Shared → Prop} (h : ¬ c) (k : wpAny M A b Q E s) : wpAny M A (@ite _ c d a b) Q E s := by rw [if_neg h]; exact k
def numDigits (n : Int) : List Nat := (if n < 0 then [45] else []) ++ (Nat.toDigits 10 n.natAbs).map Char.toNat
/-- a number, two signs wide at least -/
def fig2 (n : Int) : PySem.Str := ⟨(List.replicate (2 - (numDigits n).length) 32 ++ numDigits n).toArray⟩
theorem spec2d : parseFormatSpec (PySem.Str.ofString "2d").cps.toList "int" 62 = .ok { align := 62, width := some 2, type := some 100 } := by rfl
theorem text2d (a : Int) : intSpecText { align := 62, width := some 2, type := some 100 } a = fig2 a := by
  unfold intSpecText intField' fig2 numDigits
  have hne : (Nat.toDigits 10 a.natAbs).map (fun c => (if (100 : Nat) == 88 then c.toUpper else c).toNat) = (Nat.toDigits 10 a.natAbs).map Char.toNat := rfl
  rw [hne]
  have h1 := tDigits_len_ge 10 a.natAbs
  have he : ((Nat.toDigits 10 a.natAbs).map Char.toNat).isEmpty = false := by
    cases h : Nat.toDigits 10 a.natAbs with
    | nil => rw [h] at h1; simp at h1
    | cons _ _ => rfl
  by_cases hn : a < 0
  · simp [hn, he]
  · simp [hn, he]
theorem fmt2d {a : Int} {t : Tok} (hd : a.natAbs.log2 < 1920) (hl : (fig2 a).length ≤ sizeLine) (u : Tok) : Meets («int.__format__» ⟨[.int a t, .str (PySem.Str.ofString "2d") u], []⟩) (fun _ R s => ∀ t' k, R (.ok (.ret (.str (fig2 a) t'))) { s with toks := k }) := by
  apply KPc.meets_of
  intro _ _ _ _ _ _ _
  unfold Builtin.«int.__format__»
  refine wpAny_bind (wpAny_of_eq (a := (_, _)) rfl ?_)
  refine wpAny_bind (wpAny_of_eq (a := _) rfl ?_)
  kxf_if
  refine wpAny_bind (wpAny_typeNameOf (T := "str") (typeIs_str _ _ _) (by decide) fun _ => ?_)
  refine wpAny_bind (wpAny_of_eq (a := some _) rfl ?_)
  kxf_if
  kxf_if
  refine wpAny_bind (wpAny_typeNameOfCut_int ?_)
  rw [spec2d]
  refine wpAny_ite (KPc.ite_yes (by decide +kernel) ?_)
  refine wpAny_bind (wpAny_of_eq (PySem.overDigitLimit_small hd) ?_)
  show wpAny _ _ (retStr _) _ _ _
  refine KXf.ret_text (T := fig2 a) ?e ?l ?h
  case h => assumption
  case e => (
    rw [← text2d a]
    unfold intSpecText
    rw [show (if ({ align := 62, width := some 2, type := some 100 } : FormatSpec).alt = true then _ else []) = ([] : List Nat) from if_neg (by decide)]
    generalize e1 : (Nat.toDigits 10 a.natAbs).map _ = ds
    rw [show (Nat.toDigits 10 a.natAbs).map (fun c => (if (100 : Nat) == 88 then c.toUpper else c).toNat) = ds from e1]
    cases decide (a < 0) <;> cases ds <;> rfl)
  case l => refine Nat.le_trans (Nat.le_of_eq (congrArg PySem.Str.length (a₂ := fig2 a) ?_)) hl; (
    rw [← text2d a]
    unfold intSpecText
    rw [show (if ({ align := 62, width := some 2, type := some 100 } : FormatSpec).alt = true then _ else []) = ([] : List Nat) from if_neg (by decide)]
    generalize e1 : (Nat.toDigits 10 a.natAbs).map _ = ds
    rw [show (Nat.toDigits 10 a.natAbs).map (fun c => (if (100 : Nat) == 88 then c.toUpper else c).toNat) = ds from e1]
    cases decide (a < 0) <;> cases ds <;> rfl)
theorem formatOf_2d {prog : Program} {w : World} {A : Around} {E : Value → Shared → Prop} {s : Shared} {n : Int} {u : Tok} {X : PySem.Str} {Q : Value → Shared → Prop} (hX : X = PySem.Str.ofString "2d") (hd : n.natAbs.log2 < 1920) (hl : (fig2 n).length ≤ sizeLine)
    (h : ∀ t' k, Q (.str (fig2 n) t') { s with toks := k }) : wpAny (model prog w) A (PySem.Builtin.Str.formatOf (.int n u) X) Q E s := by
  subst hX
  unfold PySem.Builtin.Str.formatOf
  refine wpAny_ite (KPc.ite_no Bool.false_ne_true ?_)
  refine wpAny_bind (wpAny_mkStr ?_ (by decide))
  refine wpAny_bind (m := callSpecial? (.int n u) (PySem.Str.ofString "__format__") [.str (PySem.Str.ofString "2d") s.toks]) (wpAny_callSpecial?_slot (name := PySem.Str.ofString "__format__") (typeIs_int _ n u) F.slot_int_format
    (call_meets F.slot_int_format (typeIs_int _ n u) F.entry_int_format (F.args_int_format_2 _ _) (fmt2d hd hl _) fun t' k => ?_))
  refine wpAny_bind (wpAny_of_eq (a := some (fig2 n)) rfl ?_)
  refine wpAny_ite (KPc.ite_no Bool.false_ne_true ?_)
  exact wpAny_pure (h _ _)
theorem field_man {prog : Program} {w : World} {A : Around} {E : Value → Shared → Prop} {s : Shared} {id : String} {a : Array Value} {byName : PySem.Str → Sem Value} {v : Value} {Q : Value × Numbering → Shared → Prop} {X : List Nat} (hX : X = [48]) (ha : a[0]? = some v)
    (h : Q (v, .manual) s) : wpAny (model prog w) A (fieldObject id (some a) byName X .unset) Q E s := by
  subst hX
  unfold fieldObject
  refine wpAny_bind (wpAny_of_eq (a := some 0) rfl ?_)
  refine wpAny_bind (wpAny_of_eq (a := (some 0, .manual)) rfl ?_)
  simp only [ha, pure_bind]
  rw [KPc.range_list]
  exact wpAny_bind (wpAny_pure (wpAny_pure h))
def lineText (n : Int) : PySem.Str := (PySem.Str.ofString " [line " ++ fig2 n) ++ PySem.Str.ofString "]"
theorem line_meets {n : Int} {tk nt : Tok} (hd : n.natAbs.log2 < 1920) (hl : (fig2 n).length ≤ 900) : Meets («str.format» ⟨[.str (PySem.Str.ofString " [line {0:2d}]") tk, .int n nt], []⟩) (fun _ R s => ∀ t' k, R (.ok (.ret (.str (lineText n) t'))) { s with toks := k }) := by
  apply KPc.meets_of
  intro _ _ _ _ _ _ _
  unfold Builtin.«str.format»
  refine wpAny_bind (wpAny_of_eq (a := (_, _, _)) rfl ?_)
  refine wpAny_bind ?_
  unfold Builtin.Str.buildString
  refine wpAny_bind ?_
  rw [KPc.range_list]
  refine KFm.start ?_
  intro _ _
  refine KPc.turn ?_
  kpc_if
  kpc_check
  refine wpAny_bind (field_man rfl rfl ?_)
  refine wpAny_bind (wpAny_holding (wpAny_of_eq (a := _) rfl ?_))
  kpc_if
  refine wpAny_bind (wpAny_pure ?_)
  refine wpAny_bind (wpAny_holding (formatOf_2d (by rfl) hd (by rw [sizeLine_eq]; omega) ?_)); intro _ _
  refine wpAny_bind (wpAny_of_eq (a := some _) rfl ?_)
  refine wpAny_pure ?_
  refine KFm.after_field (K := 900) (by kpc_g) (by kpc_text) (by kpc_obj) hl (by kpc_obj) (by kfm_cat2) (by kfm_rest) ?_
  intro _ _
  refine KPc.turn ?_
  kpc_if
  kpc_check
  kfm_lit
  refine KPc.turn ?_
  kpc_if
  kfm_close
end Mine
end
section
open PySem PySem.W PySem.Calls PyProof.Rows
set_option Elab.async false
set_option maxRecDepth 100000
set_option maxHeartbeats 4000000
namespace Mine
theorem lines_of {prog : Program} {w : World} {n : Int} (hd : n.natAbs.log2 < 1920) (hl : (fig2 n).length ≤ 900) : Lines prog w n (lineText n) where
  call := fun A s Q E tk nt _ _ _ _ h => KFm.call_k rfl (KFm.args_2 _ _) (line_meets hd hl) fun t' k => h s.heap t' k fun _ _ e => e
  short := by
    have h1 : (PySem.Str.ofString " [line ").length = 7 := by decide +kernel
    have h2 : (PySem.Str.ofString "]").length = 1 := by decide +kernel
    simp only [lineText, PySem.Str.length_append]
    omega
end Mine
end
section
open PySem PySem.W PySem.Calls PyProof.Rows
set_option Elab.async false
set_option maxRecDepth 100000
set_option maxHeartbeats 4000000
namespace Mine
section
variable {prog : Program} {w : World} {A : Around} {E : Value → Shared → Prop} {s : Shared} {h₀ : Heap} {L : Addr} {m : Str → Option Value} {news : List (Addr × Obj)} {v : Value} {t : Str} {Q : Value → Shared → Prop} {K : Frag}
/-- a field of an error that stood ahead of the frame -/
theorem err_get0 {expr : Bool} {C x d ta : Addr} {od : Obj} {name : Str} {attr : Option Value} (F : Fr h₀ L s.heap m) (X₀ : K.In h₀) (h1 : h₀.get? x = some (excObj C (some d) ta)) (h2 : h₀.get? d = some od) (hl : lookIn name od = some (some v)) (hg : excGet K C = true)
    (hh : hasDictIn K C = true) (ha : findIn K (.ref C) name = some attr) (hn : noGet K attr = true) (hv : handedIn v = true) (h : Q v { s with toks := s.toks + 1 }) :
    wpAny (model prog w) A (getAttr (.ref x) name expr) Q E s :=
  exc_get (X₀.keeps F.keep) ⟨F.keep _ _ h1, rfl, rfl, F.keep _ _ h2⟩ hg (findObj_own hh ha hn hl) hv h
/-- str of an error of the ledger -/
theorem err_str {C x d ta f : Addr} {od : Obj} {msg : Str} {u : Tok} (F : Fr h₀ L s.heap m) (X₀ : K.In h₀) (N : News h₀ L s.heap news) (h1 : (x, excObj C (some d) ta) ∈ news) (h2 : (d, od) ∈ news) (hm : lookIn "message" od = some (some (.str msg u)))
    (c : ∀ Q E, s.heap.get? x = some (excObj C (some d) ta) → s.heap.get? d = some od → lookIn "message" od = some (some (.str msg u)) → K.In s.heap → (∀ h' tk, Grow s.heap h' → Q (.str msg u) { s with heap := h', toks := tk }) → wpAny (model prog w) (AD 610 2100) (call (.ref f) [.ref x]) Q E s)
    (hs : findIn K (.ref C) "__str__" = some (some (.ref f))) (hf : isFn K (.ref f) = true) (hu : A.in1.in1.units < cLine) (a1 : A.in1.in1.handled = none) (a2 : A.in1.in1.guards = some []) (a3 : A.in1.in1.depth ≤ 610) (a4 : A.in1.in1.units ≤ 2100)
    (h : ∀ h' tk, Fr h₀ L h' m → News h₀ L h' news → Q (.str msg u) { s with heap := h', toks := tk }) : wpAny (model prog w) A (call (.type "str") [.ref x]) Q E s :=
  kso_call hu (X₀.keeps F.keep) (InstAt.of_exc N h1 h2) hs hf (weaken a1 a2 a3 a4 (c (StrBack Q) E (N _ h1).1 (N _ h2).1 hm (X₀.keeps F.keep) fun h' tk g => h h' tk (fr_grow F g) (news_grow N g)))
/-- a contract that gives a text back, used from a frame -/
theorem text_use {f : Value} {vs : List Value} {kw : List (Str × Value)} {x : Str}
    (c : ∀ Q E, (∀ h' tk u, Grow s.heap h' → Q (.str x u) { s with heap := h', toks := tk }) → wpAny (model prog w) (AD 600 2000) (call f vs kw) Q E s)
    (F : Fr h₀ L s.heap m) (N : News h₀ L s.heap news) (h1 : A.handled = none) (h2 : A.guards = some []) (h3 : A.depth ≤ 600) (h4 : A.units ≤ 2000)
    (h : ∀ h' tk u, Fr h₀ L h' m → News h₀ L h' news → Q (.str x u) { s with heap := h', toks := tk }) : wpAny (model prog w) A (call f vs kw) Q E s :=
  weaken h1 h2 h3 h4 (c Q E fun h' tk u g => h h' tk u (fr_grow F g) (news_grow N g))
end
/-- one frame name changes, in one way or another -/
def Joined (h₀ : Heap) (L : Addr) (m : Str → Option Value) (news : List (Addr × Obj)) (y : Str) (P : Value → Prop) (s : Shared) (fl : Flow) (s' : Shared) : Prop :=
  fl = .next ∧ ∃ h' tk v, s' = { s with heap := h', toks := tk } ∧ P v ∧ Fr h₀ L h' (fun z => if z = y then some v else m z) ∧ News h₀ L h' news
def JoinedV (h₀ : Heap) (L : Addr) (m : Str → Option Value) (news : List (Addr × Obj)) (P : Value → Prop) (s : Shared) (v : Value) (s' : Shared) : Prop :=
  P v ∧ ∃ h' tk, s' = { s with heap := h', toks := tk } ∧ Fr h₀ L h' m ∧ News h₀ L h' news
section
variable {prog : Program} {w : World} {A : Around} {E : Value → Shared → Prop} {s : Shared} {h₀ : Heap} {L : Addr} {m : Str → Option Value} {news : List (Addr × Obj)} {M : Model}
theorem join_ {t : Sem Flow} {Q : Flow → Shared → Prop} (y : Str) (P : Value → Prop) (F : Fr h₀ L s.heap m) (N : News h₀ L s.heap news) (h1 : wpAny M A t (Joined h₀ L m news y P s) E s)
    (h2 : ∀ h' tk v, P v → Fr h₀ L h' (fun z => if z = y then some v else m z) → News h₀ L h' news → Q .next { s with heap := h', toks := tk }) : wpAny M A t Q E s :=
  wpAny_mono h1 (fun _ _ ⟨e, h', tk, v, e', p, F', N'⟩ => by subst e; subst e'; exact h2 h' tk v p F' N') fun _ _ z => z
theorem joinV_ {t : Sem Value} {Q : Value → Shared → Prop} (P : Value → Prop) (F : Fr h₀ L s.heap m) (N : News h₀ L s.heap news) (h1 : wpAny M A t (JoinedV h₀ L m news P s) E s)
    (h2 : ∀ v h' tk, P v → Fr h₀ L h' m → News h₀ L h' news → Q v { s with heap := h', toks := tk }) : wpAny M A t Q E s :=
  wpAny_mono h1 (fun _ _ ⟨p, h', tk, e', F', N'⟩ => by subst e'; exact h2 _ h' tk p F' N') fun _ _ z => z
theorem joined_set {y : Str} {P : Value → Prop} {h' : Heap} {tk : Nat} {v : Value} (p : P v) (F : Fr h₀ L h' (fun z => if z = y then some v else m z)) (N : News h₀ L h' news) : Joined h₀ L m news y P s .next { s with heap := h', toks := tk } := ⟨rfl, h', tk, v, rfl, p, F, N⟩
theorem joined_kept {y : Str} {P : Value → Prop} {h' : Heap} {tk : Nat} {v : Value} (p : P v) (hm : m y = some v) (F : Fr h₀ L h' m) (N : News h₀ L h' news) : Joined h₀ L m news y P s .next { s with heap := h', toks := tk } :=
  ⟨rfl, h', tk, v, rfl, p, by
    have e : (fun z => if z = y then some v else m z) = m := by
      funext z
      by_cases hz : z = y
      · rw [if_pos hz, hz, hm]
      · rw [if_neg hz]
    rw [e]; exact F, N⟩
theorem joinedV_ {P : Value → Prop} {h' : Heap} {tk : Nat} {v : Value} {news' : List (Addr × Obj)} (p : P v) (F : Fr h₀ L h' m) (N : News h₀ L h' news') (hs : ∀ q ∈ news, q ∈ news') : JoinedV h₀ L m news P s v { s with heap := h', toks := tk } := ⟨p, h', tk, rfl, F, fun q hq => N q (hs q hq)⟩
end
end Mine
end
section
open PySem PySem.W PySem.Calls PyProof.Rows
set_option Elab.async false
set_option maxRecDepth 100000
set_option maxHeartbeats 4000000
namespace Mine
section
variable {prog : Program} {w : World} {A : Around} {E : Value → Shared → Prop} {s : Shared}
/-- an item of a list that was just written, by an index within it: one of its items -/
theorem item_tmp {value slice : Expr} {l : Addr} {items : List Value} {k : Int} {u : Tok} {Q : Value → Shared → Prop} (hl : s.heap.IsList l items.toArray) (h0 : 0 ≤ k) (hk : k < (items.length : Int)) (hz : items.length ≤ 1000)
    (h : ∀ x ∈ items, Q x s) (hs : subscripted slice false (.ref l) (.int k u) = operate [.ref l, .int k u] (getItem (.ref l) (.int k u)) := by with_unfolding_all rfl) :
    wpAny (model prog w) A (subscriptTail value slice (.ref l) (.int k u)) Q E s := by
  have hT := hl.typeIs
  have hkn : k.toNat < items.length := by omega
  unfold subscriptTail
  refine wpAny_bind ?_
  rw [getitemInPython_of_ne hT.not_modules]
  refine wpAny_bind (wpAny_specialOf hT slot_list_getitem.lookup ?_)
  have fin : wpAny (model prog w) A (subscripted slice false (.ref l) (.int k u)) (fun r s₃ => wpAny (model prog w) A (letTemporaryGo value (.ref l) r >>= fun _ => pure r) Q E s₃) E s := by
    rw [hs]
    refine wpAny_operating (wpAny_getItem_list hl h0 (by omega) (x := items[k.toNat]) (by simp [hkn]) ?_)
    exact wpAny_bind (wpAny_letTemporaryGo (wpAny_pure (h _ (List.getElem_mem hkn))))
  first
    | exact wpAny_pure (wpAny_bind fin)
    | exact wpAny_bind (wpAny_pure (wpAny_bind fin))
    | exact wpAny_bind fin
end
end Mine
end
section
open PySem PySem.W PySem.Calls PyProof.Rows
set_option Elab.async false
set_option maxRecDepth 100000
set_option maxHeartbeats 4000000
namespace Mine
section
variable {prog : Program} {w : World} {A : Around} {E : Value → Shared → Prop} {s : Shared} {env : Env} {h₀ : Heap} {target : Expr} {body : List Stmt} {Q : Flow → Shared → Prop}
/-- a loop over a list of the ledger, by what holds of the frame; the ledger is kept -/
theorem turns_inv {ax : Addr} {vs : List Value} {nn : Nat} {m₀ : Str → Option Value} {news : List (Addr × Obj)} (J : (Str → Option Value) → Prop)
    (hh : A.handled = none) (hl : (ax, listOf vs.toArray nn) ∈ news) (F : Fr h₀ env.locals s.heap m₀) (N : News h₀ env.locals s.heap news) (hj : J m₀)
    (turn : ∀ v m₁ h tk own, v ∈ vs → J m₁ → Fr h₀ env.locals h m₁ → News h₀ env.locals h (news ++ own) →
      wpAny (model prog w) A (assign target env v) (fun _ s₃ => wpAny (model prog w) A (execs body env) (InvPost h₀ env.locals J (news ++ own) { s with heap := h, toks := tk } Q) E s₃) E { s with heap := h, toks := tk })
    (done : ∀ m₁ h tk, J m₁ → Fr h₀ env.locals h m₁ → News h₀ env.locals h news → Q .next { s with heap := h, toks := tk }) :
    wpAny (model prog w) A (pyIter (.ref ax)) (fun it s₂ => TurnsAt prog w A h₀ env target body Q E it s₂) E s := by
  have hol : s.heap.get? ax = some (listOf vs.toArray nn) := (N _ hl).1
  have hls : s.heap.IsList ax vs.toArray := ⟨_, hol, rfl, nn, rfl⟩
  have hne : ax ≠ s.heap.objs.size := Nat.ne_of_lt (Heap.lt_size hol)
  refine wpAny_pyIter_list hls ?_
  have W := KTurns.ofWalks (target := target) (Walks.list (prog := prog) (w := w) hh s.heap.objs.size ax hne vs.toArray) fun i v s Q E st q => letGo_listiter st.1 q
  refine ⟨_, _, _, _, _, _, _, m₀, news, (fun _ m nx => nx = news ∧ J m), rfl, W, ?_, ?_, ?_, ⟨⟨_, Heap.get?_push_size _ rfl, rfl, rfl⟩, hls.at fun o e => Heap.get?_push_of_some _ e⟩, F.push _, (fun p hp => ⟨Heap.get?_push_of_some _ (N p hp).1, (N p hp).2⟩), ⟨rfl, hj⟩, ?_, ?_⟩
  · intro hm
    rcases List.mem_cons.mp hm with e | hm
    · exact absurd F.ns.lt (e ▸ Nat.lt_irrefl _)
    · exact (N _ hl).2.1 ((List.mem_singleton.mp hm).symm)
  · intro b hb
    rw [List.mem_singleton.mp hb]
    exact next_is_new F
  · intro p hp hI
    exact absurd (Heap.lt_size (N p hp).1) ((List.mem_singleton.mp hI) ▸ Nat.lt_irrefl _)
  · rintro i v m₁ news₁ h₁ tk₁ own hin hP ⟨rfl, hJ⟩ hoff hown hget hall _ F₁ N₁
    have hP' : vs[i]? = some v := by simpa using hP
    have N₂ : News h₀ env.locals h₁ (news₁ ++ own) := fun p hp => N₁ p ((List.mem_append.mp hp).elim (fun h => List.mem_append.mpr (.inr h)) fun h => List.mem_append.mpr (.inl h))
    refine wpAny_mono (turn v m₁ h₁ tk₁ own (List.mem_of_getElem? hP') hJ F₁ N₂) (fun _ s₃ z => wpAny_mono z (fun f s₂ p => ?_) fun _ _ e => e) fun _ _ e => e
    have fin : InvEnd h₀ env.locals J (news₁ ++ own) { s with heap := h₁, toks := tk₁ } s₂ → LoopStepU h₀ env.locals [s.heap.objs.size] own (fun m nx => nx = news₁ ∧ J m) { s with heap := h₁, toks := tk₁ } .next s₂ := by
      rintro ⟨h', tk, m', news', e, F', N', hn, hm⟩
      exact ⟨rfl, h', tk, m', news₁, e, F', fun p hp => N' p (hn p ((List.mem_append.mp hp).elim (fun h => List.mem_append.mpr (.inr h)) fun h => List.mem_append.mpr (.inl h))), hoff, rfl, hm⟩
    cases f with
    | ret v => exact .ret p
    | brk => exact .brk p
    | next => exact .next (fin p)
    | cont => exact .cont (fin p)
  · rintro h' tk m' news' F' N' _ ⟨rfl, hJ⟩
    exact done m' h' tk hJ F' N'
theorem turns_keep {ax : Addr} {vs : List Value} {nn : Nat} {m₀ : Str → Option Value} {news : List (Addr × Obj)} (junk : List Str)
    (hh : A.handled = none) (hl : (ax, listOf vs.toArray nn) ∈ news) (F : Fr h₀ env.locals s.heap m₀) (N : News h₀ env.locals s.heap news)
    (turn : ∀ v m₁ h tk led, v ∈ vs → (∀ z, z ∉ junk → m₁ z = m₀ z) → (∀ p ∈ news, p ∈ led) → Fr h₀ env.locals h m₁ → News h₀ env.locals h led →
      wpAny (model prog w) A (assign target env v) (fun _ s₃ => wpAny (model prog w) A (execs body env) (InvPost h₀ env.locals (fun m' => ∀ z, z ∉ junk → m' z = m₀ z) led { s with heap := h, toks := tk } Q) E s₃) E { s with heap := h, toks := tk })
    (done : ∀ m₁ h tk, (∀ z, z ∉ junk → m₁ z = m₀ z) → Fr h₀ env.locals h m₁ → News h₀ env.locals h news → Q .next { s with heap := h, toks := tk }) :
    wpAny (model prog w) A (pyIter (.ref ax)) (fun it s₂ => TurnsAt prog w A h₀ env target body Q E it s₂) E s :=
  turns_inv (fun m' => ∀ z, z ∉ junk → m' z = m₀ z) hh hl F N (fun _ _ => rfl) (fun v m₁ h tk own hv hj F₁ N₁ => turn v m₁ h tk (news ++ own) hv hj (fun _ hp => List.mem_append_left _ hp) F₁ N₁) done
theorem fr_names {L : Addr} {h : Heap} {m₁ : Str → Option Value} (ps : List (Str × Value)) (hp : ∀ p ∈ ps, m₁ p.1 = some p.2) (F : Fr h₀ L h m₁) : Fr h₀ L h (kstB m₁ ps) := by
  have e : kstB m₁ ps = m₁ := funext fun z => kstB_eq hp fun _ => rfl
  rw [e]; exact F
theorem inv_end {L : Addr} {J : (Str → Option Value) → Prop} {m' : Str → Option Value} {need news' : List (Addr × Obj)} {h' : Heap} {tk : Nat} (F : Fr h₀ L h' m') (N : News h₀ L h' news') (hn : ∀ p ∈ need, p ∈ news') (hj : J m') : InvPost h₀ L J need s Q .next { s with heap := h', toks := tk } :=
  InvEnd.intro F N hn hj
end
end Mine
end
section
open PySem PySem.W PySem.Calls PyProof.Rows
set_option Elab.async false
set_option maxRecDepth 100000
set_option maxHeartbeats 4000000
namespace Mine
theorem sapp (a b c : Str) : a ++ b ++ c = a ++ (b ++ c) := by
  have e : (a ++ b ++ c).cps = (a ++ (b ++ c)).cps := by simp only [PySem.Str.cps_append, Array.append_assoc]
  exact congrArg PySem.Str.mk e
theorem tj0 (l : List Str) : Txt.join (Str.ofString "") l = Str.join (Str.ofString "") l := by
  unfold Txt.join
  rw [StrLaws.glued_eq_join]
theorem tj1 (x : Str) : Txt.join (Str.ofString "") [x] = x := by rw [tj0]; rfl
theorem tjc (x y : Str) (r : List Str) : Txt.join (Str.ofString "") (x :: y :: r) = x ++ Txt.join (Str.ofString "") (y :: r) := by
  rw [tj0, tj0]
  show x ++ Str.ofString "" ++ Str.join (Str.ofString "") (y :: r) = _
  rw [KFm.cat_t]
theorem lit_s : Str.ofString "]: " ++ Str.ofString "section " = Str.ofString "]" ++ Str.ofString ": section " := by decide +kernel
theorem lit_o : Str.ofString "]: " ++ Str.ofString "option " = Str.ofString "]" ++ Str.ofString ": option " := by decide +kernel
theorem tx60a (r : Str) : Txt.join (Str.ofString "") [Str.ofString "Section ", r, Str.ofString " already exists"] = Str.ofString "Section " ++ (r ++ Str.ofString " already exists") := by
  simp only [tjc, tj1]
theorem tx80a (o r : Str) : Txt.join (Str.ofString "") [Str.ofString "Option ", o, Str.ofString " in section ", r, Str.ofString " already exists"] = Str.ofString "Option " ++ (o ++ Str.ofString " in section " ++ (r ++ Str.ofString " already exists")) := by
  simp only [tjc, tj1, sapp]
theorem tx60b (rc r : Str) (n : Int) : Txt.join (Str.ofString "") [Str.ofString "While reading from ", rc, lineText n, Str.ofString ": section ", r, Str.ofString " already exists"] =
    Str.ofString "While reading from " ++ rc ++ Str.ofString " [line " ++ fig2 n ++ Str.ofString "]: " ++ Str.ofString "section " ++ (r ++ Str.ofString " already exists") := by
  rw [sapp _ (Str.ofString "]: "), lit_s]
  simp only [tjc, tj1, sapp, lineText]
theorem tx80b (rc o r : Str) (n : Int) : Txt.join (Str.ofString "") [Str.ofString "While reading from ", rc, lineText n, Str.ofString ": option ", o, Str.ofString " in section ", r, Str.ofString " already exists"] =
    Str.ofString "While reading from " ++ rc ++ Str.ofString " [line " ++ fig2 n ++ Str.ofString "]: " ++ Str.ofString "option " ++ (o ++ Str.ofString " in section " ++ (r ++ Str.ofString " already exists")) := by
  rw [sapp _ (Str.ofString "]: "), lit_o]
  simp only [tjc, tj1, sapp, lineText]
end Mine
end
section
open PySem PySem.W PySem.Calls PyProof.Rows
set_option Elab.async false
set_option maxRecDepth 100000
set_option maxHeartbeats 1000000
namespace Mine
def Inv05 (pre : List Int) (line : Int) (figures : Str) : Prop := 0 ≤ line ∧ figures.length ≤ pre.length ∧ line < 10 ^ pre.length ∧ (pre ≠ [] → figures = Str.ofString (toString line)) ∧ (pre = [] → line = 0)
theorem inv05_0 : Inv05 [] 0 (Str.ofString "") := ⟨by decide, by decide, by decide, fun h => absurd rfl h, fun _ => rfl⟩
theorem item_fig : ∀ d : Fin 10, Txt.item (Str.ofString "0123456789") (d.val : Int) = ⟨#[48 + d.val]⟩ := by decide +kernel
theorem dig_fig : ∀ d : Fin 10, (Nat.toDigits 10 d.val).map Char.toNat = [48 + d.val] := by decide +kernel
theorem fig_step {m d : Nat} (hm : 0 < m) (hd : d < 10) : Str.ofString (toString (Int.ofNat m)) ++ (⟨#[48 + d]⟩ : Str) = Str.ofString (toString (Int.ofNat (m * 10 + d))) := by
  rw [text_ofNat, text_ofNat, Nat.mul_comm m 10, ← Nat.toDigits_append_toDigits (by decide) hm hd, List.map_append, dig_fig ⟨d, hd⟩]
  apply congrArg PySem.Str.mk
  simp
theorem fig_one {d : Nat} (hd : d < 10) : (⟨#[48 + d]⟩ : Str) = Str.ofString (toString (Int.ofNat d)) := by
  rw [text_ofNat, dig_fig ⟨d, hd⟩]
theorem step05 {pre : List Int} {line : Int} {figures fig : Str} {n : Int} (hI : Inv05 pre line figures) (h1 : line = 0 → fig = Str.ofString "") (h2 : line ≠ 0 → fig = figures) : Inv05 (pre ++ [n]) (line * 10 + (if n < 0 then -n else n).fmod 10) (fig ++ Txt.item (Str.ofString "0123456789") ((if n < 0 then -n else n).fmod 10)) := by
  obtain ⟨i1, i2, i3, i4, i5⟩ := hI
  have d0 := Int.fmod_nonneg_of_pos (if n < 0 then -n else n) (b := 10) (by decide)
  have d1 := Int.fmod_lt_of_pos (if n < 0 then -n else n) (b := 10) (by decide)
  generalize (if n < 0 then -n else n).fmod 10 = d at *
  obtain ⟨d, rfl⟩ := Int.eq_ofNat_of_zero_le d0
  have hd : d < 10 := by omega
  rw [item_fig ⟨d, hd⟩]
  obtain ⟨m, rfl⟩ := Int.eq_ofNat_of_zero_le i1
  have hl : (⟨#[48 + d]⟩ : Str).length = 1 := rfl
  refine ⟨by omega, ?_, ?_, fun _ => ?_, fun h => by simp at h⟩
  · rw [PySem.Str.length_append, hl, List.length_append]
    by_cases hm : (m : Int) = 0
    · rw [h1 hm]
      have h0 : (Str.ofString "").length = 0 := rfl
      simp [h0]
    · rw [h2 hm]; simpa using i2
  · rw [List.length_append, List.length_singleton, Int.pow_succ]; omega
  · by_cases hm : (m : Int) = 0
    · rw [h1 hm, hm]
      have e0 : Str.ofString "" = PySem.Str.empty := rfl
      rw [e0, KFm.cat_e]
      have := fig_one hd
      simpa using this
    · have hp : pre ≠ [] := fun e => hm (i5 e)
      rw [h2 hm, i4 hp]
      have := fig_step (m := m) (by omega) hd
      simpa using this
theorem nd_pos {m : Nat} : numDigits (Int.ofNat m) = (Nat.toDigits 10 m).map Char.toNat := by
  unfold numDigits
  rw [if_neg (by simp)]
  rfl
theorem mul_sp (k : Int) (hk : k ≤ 2) : Txt.mul (Str.ofString " ") k = ⟨(List.replicate k.toNat 32).toArray⟩ := by
  by_cases h0 : k < 1
  · have : k.toNat = 0 := by omega
    rw [this]; unfold Txt.mul; rw [if_pos h0]; rfl
  · rcases (by omega : k = 1 ∨ k = 2) with rfl | rfl
    · rfl
    · rfl
theorem told05 {pre : List Int} {line : Int} {fig : Str} {n : Int} (hI : Inv05 (pre ++ [n]) line fig) : Txt.mul (Str.ofString " ") (2 - (fig.length : Int)) ++ fig = fig2 line := by
  obtain ⟨i1, i2, i3, i4, i5⟩ := hI
  have hf := i4 (by simp)
  obtain ⟨m, rfl⟩ := Int.eq_ofNat_of_zero_le i1
  have hf' : fig = ⟨((Nat.toDigits 10 m).map Char.toNat).toArray⟩ := hf.trans (text_ofNat m)
  have hl : fig.length = ((Nat.toDigits 10 m).map Char.toNat).length := by rw [hf']; simp [PySem.Str.length]
  rw [mul_sp _ (by omega), hl, hf']
  unfold fig2
  rw [show numDigits (m : Int) = _ from nd_pos]
  apply congrArg PySem.Str.mk
  have e : (2 - (((Nat.toDigits 10 m).map Char.toNat).length : Int)).toNat = 2 - ((Nat.toDigits 10 m).map Char.toNat).length := by omega
  rw [e]
  simp
theorem numDigits_len {n : Int} (h : n.natAbs < 10 ^ 41) : (numDigits n).length ≤ 42 := by
  have h1 := digits10_le (k := 41) (by decide) h
  unfold numDigits
  rw [List.length_append, List.length_map]
  split <;> simp <;> omega
theorem fig2_len {n : Int} (h : n.natAbs < 10 ^ 41) : (fig2 n).length ≤ 44 := by
  have h1 := numDigits_len h
  unfold fig2
  simp only [PySem.Str.length, List.size_toArray, List.length_append, List.length_replicate]
  omega
theorem log2_ok {n : Int} (h : n.natAbs < 10 ^ 41) : n.natAbs.log2 < 1920 := by
  by_cases h0 : n.natAbs = 0
  · rw [h0]; decide
  · exact Nat.lt_of_lt_of_le ((Nat.log2_lt h0).mpr (Nat.lt_trans h (by decide : 10 ^ 41 < 2 ^ 200))) (by decide)
theorem abs05 {pre : List Int} {line : Int} {fig : Str} {n : Int} (hp : pre.length ≤ 40) (hI : Inv05 (pre ++ [n]) line fig) : line.natAbs < 10 ^ 41 := by
  obtain ⟨i1, _, i3, _, _⟩ := hI
  have h1 : (10 : Int) ^ (pre ++ [n]).length ≤ 10 ^ 41 := by
    have : (10 : Nat) ^ (pre ++ [n]).length ≤ 10 ^ 41 := Nat.pow_le_pow_right (by decide) (by simp; omega)
    exact_mod_cast this
  have h2 := Int.lt_of_lt_of_le i3 h1
  have h3 : ((line.natAbs : Nat) : Int) < ((10 ^ 41 : Nat) : Int) := by
    rw [Int.natAbs_of_nonneg i1]; exact_mod_cast h2
  exact_mod_cast h3
theorem neg05 {pre : List Int} {line : Int} {fig : Str} {n : Int} (hI : Inv05 (pre ++ [n]) line fig) (h : 0 < line) : Str.ofString "-" ++ fig = fig2 (-line) := by
  obtain ⟨i1, i2, i3, i4, i5⟩ := hI
  have hf := i4 (by simp)
  obtain ⟨m, rfl⟩ := Int.eq_ofNat_of_zero_le i1
  have hf' : fig = ⟨((Nat.toDigits 10 m).map Char.toNat).toArray⟩ := hf.trans (text_ofNat m)
  have h1 := tDigits_len_ge 10 m
  have e : numDigits (-(m : Int)) = 45 :: (Nat.toDigits 10 m).map Char.toNat := by
    unfold numDigits
    rw [if_pos (by omega), Int.natAbs_neg, Int.natAbs_natCast]; rfl
  unfold fig2
  rw [e, hf', show 2 - (45 :: (Nat.toDigits 10 m).map Char.toNat).length = 0 by simp; omega]
  apply congrArg PySem.Str.mk
  simp
  rfl
theorem zero05 : Str.ofString " 0" = fig2 0 := by decide +kernel
end Mine
end
section
open PySem PySem.W PySem.Calls PyProof.Rows PyProof.V
set_option Elab.async false
set_option maxRecDepth 100000
set_option maxHeartbeats 1000000
namespace Mine
section
variable {prog : Program} {w : World} {A : Around} {E : Value → Shared → Prop} {s : Shared} {h₀ : Heap} {L : Addr} {Q : Value → Shared → Prop} {a b : Addr} {news : List (Addr × Obj)}
/-- two lists that read alike are not unequal -/
theorem ne_alike {xs ys : List Value} {ds : List PyData} {n1 n2 : Nat} {as bs : List Addr} (N : News h₀ L s.heap news) (ha : (a, listOf xs.toArray n1) ∈ news) (hb : (b, listOf ys.toArray n2) ∈ news) (rx : ReadsAll s.heap xs ds as) (ry : ReadsAll s.heap ys ds bs)
    (hs : SeqAt.shaped (.list ds) = true) (hu : A.units + 64 < cLine) (he : PyData.eqvAll ds ds = true) (h : Q (.bool false) s) : wpAny (model prog w) A (compareOp .NotEq (.ref a) (.ref b)) Q E s :=
  ne_dataH (reads_list_at (N.get ha) rfl rfl (by simpa using rx)) (reads_list_at (N.get hb) rfl rfl (by simpa using ry)) hs hs hu (by rw [show PyData.eqv (.list ds) (.list ds) = true by simpa [PyData.eqv] using he]; exact h)
theorem reads_tup {h : Heap} {t : Addr} {vs : List Value} {ds : List PyData} {as : List Addr} {h₀ : Heap} {L : Addr} {news : List (Addr × Obj)} (N : News h₀ L h news) (ht : (t, ({ cls := .type "tuple", data := .seq vs.toArray } : Obj)) ∈ news) (r : ReadsAll h vs ds as) : Reads h (.ref t) (.tuple ds) as :=
  reads_tuple_at (N.get ht) rfl rfl (by simpa using r)
end
theorem strOk_app (a b : Str) : PyData.strOk (a ++ b) = (PyData.strOk a && PyData.strOk b) := by
  unfold PyData.strOk
  rw [PySem.Str.cps_append, Array.all_append]
theorem strOk_fig (n : Int) : PyData.strOk (fig2 n) = true := by
  unfold PyData.strOk fig2 numDigits
  simp only [List.all_toArray, List.all_append, Bool.and_eq_true, List.all_eq_true]
  refine ⟨fun x hx => ?_, ?_, fun x hx => ?_⟩
  · rw [(List.mem_replicate.mp hx).2]; decide
  · split <;> simp
  · obtain ⟨c, _, rfl⟩ := List.mem_map.mp hx
    have := c.valid
    have h2 : c.toNat < 0x110000 := by
      rcases this with h | h
      · exact Nat.lt_of_lt_of_le h (by decide)
      · exact h.2
    simpa using h2
end Mine
end
section
open PySem PySem.W PySem.W.X PyProof.Rows
set_option Elab.async false
set_option maxRecDepth 100000
set_option maxHeartbeats 0
namespace Mine
local macro_rules | `(tactic| k_head) => `(tactic| x_head)
open_top hx for PySem.Challenge.rw_dm0028_05
end Mine
end
section
open PySem PySem.W PySem.W.X PySem.Calls PyProof.Rows
set_option Elab.async false
set_option maxRecDepth 100000
set_option maxHeartbeats 8000000
set_option linter.unusedVariables false
namespace Mine
local macro_rules | `(tactic| walk_at "mine drop") => `(tactic| first | (refine' Drop.head ?a; (case a => k_all)) | (refine' Drop.tail ?a ?b; (case a => k_ne); (case b => walk_at "mine drop")))
local macro_rules | `(tactic| walk_at "setAttr ref") => `(tactic| (k_here; k_dflt (first
  | (refine' exc_set0 (news' := ?nw) ?k1 ?k2 ?k3 ?k4 ?k5 ?k6 ?k7 ?k8 ?k9 ?_; (case k1 => k_asm); (case k2 => k_asm); (case k3 => k_asm); (case k4 => k_mem); (case k5 => k_is); (case k6 => kernel_rfl); (case k7 => k_is); (case k8 => k_is); (case k9 => intro d; k_upd); k_whole; intro d' h' F' N' l1; (try k_lt l1))
  | (refine' exc_set_args ?k1 ?k2 ?k3 ?k4 ?k5 ?k6 ?k7 ?k8 ?k9 ?k10 ?_; (case k1 => k_asm); (case k2 => k_asm); (case k3 => k_asm); (case k4 => first | (refine' InstAt.of_exc ?N ?h1 ?h2; (case N => k_asm); (case h1 => k_mem); (case h2 => k_mem)) | (refine' InstAt.of_exc0 ?N ?h1; (case N => k_asm); (case h1 => k_mem))); (case k5 => exact isTup_of (by k_asm) (by k_mem)); (case k6 => k_is); (case k7 => kernel_rfl); (case k8 => k_is); (case k9 => k_is); (case k10 => k_upd); k_whole; intro h' F' N')
  | (refine' exc_set ?k1 ?k2 ?k3 ?k4 ?k5 ?k6 ?k7 ?k8 ?k9 ?k10 ?k11 ?k12 ?_; (case k1 => k_asm); (case k2 => k_asm); (case k3 => k_asm); (case k4 => first | (refine' InstAt.of_exc ?N ?h1 ?h2; (case N => k_asm); (case h1 => k_mem); (case h2 => k_mem)) | (refine' InstAt.of_exc0 ?N ?h1; (case N => k_asm); (case h1 => k_mem))); (case k5 => k_is); (case k6 => kernel_rfl); (case k7 => k_is); (case k8 => k_is); (case k9 => k_get); (case k10 => k_put); (case k11 => k_upd); (case k12 => exact Nat.le_of_ble_eq_true rfl); k_whole; intro h' F' N'))))
local macro_rules | `(tactic| walk_at "call builtin:Exception.__init__") => `(tactic| (k_here; k_dflt (refine' exc_init_call (news'' := ?nw) ?k1 ?k2 ?k3 ?k4 ?k5 ?k6 ?_; (case k1 => k_asm); (case k2 => k_asm); (case k3 => k_asm); (case k4 => first | (refine' InstAt.of_exc ?N ?h1 ?h2; (case N => k_asm); (case h1 => k_mem); (case h2 => k_mem)) | (refine' InstAt.of_exc0 ?N ?h1; (case N => k_asm); (case h1 => k_mem))); (case k5 => k_is); (case k6 => intro t; k_upd); k_whole; intro t' h' F' N' l1; (try k_lt l1))))
local macro_rules | `(tactic| walk_at "call builtin:repr") => `(tactic| (k_here; k_dflt (refine' repr_use ?k1 ?k2 ?k3 ?k4 ?k5 ?k6 ?k7 ?_; (case k1 => assumption); (case k2 => k_asm); (case k3 => k_asm); (case k4 => exact rfl); (case k5 => exact rfl); (case k6 => exact Nat.le_of_ble_eq_true rfl); (case k7 => exact Nat.le_of_ble_eq_true rfl); k_whole; intro h' u' tk' F' N')))
local macro_rules | `(tactic| walk_at "BackIn") => `(tactic| (k_dflt (refine' back_ ?k1 ?k2 ?k3 ?_; (case k1 => k_asm); (case k2 => k_asm); (case k3 => walk_at "mine drop"); k_whole; intro F' N'; (try dsimp only))))
local macro_rules | `(tactic| walk_at "call ref") => `(tactic| (k_here; k_dflt (refine wpAny_call ?_; refine' enter_in ?k1 ?k2 ?k3 ?k4 ?k5 ?k6 ?k7 ?k8 ?kB ?c2 ?c3 ?c4 ?c5 ?_; (case k1 => k_asm); (case k2 => k_asm); (case k3 => k_asm); (case k4 => exact Top.nolimit (by assumption)); (case k5 => k_is); (case k6 => k_is); (case k7 => exact Nat.le_of_ble_eq_true rfl); (case k8 => first | ((with_reducible show BindsTo _ _ ⟨[_], []⟩ _); first | exact BindsTo.of_eq (binds := [(_, _)]) rfl | exact binds_K (binds := [(_, _)]) (by k_in) rfl (by k_is) rfl rfl rfl) | ((with_reducible show BindsTo _ _ ⟨[_, _], []⟩ _); first | exact BindsTo.of_eq (binds := [(_, _), (_, _)]) rfl | exact binds_K (binds := [(_, _), (_, _)]) (by k_in) rfl (by k_is) rfl rfl rfl) | ((with_reducible show BindsTo _ _ ⟨[_, _, _], []⟩ _); first | exact BindsTo.of_eq (binds := [(_, _), (_, _), (_, _)]) rfl | exact binds_K (binds := [(_, _), (_, _), (_, _)]) (by k_in) rfl (by k_is) rfl rfl rfl) | ((with_reducible show BindsTo _ _ ⟨[_, _, _, _], []⟩ _); first | exact BindsTo.of_eq (binds := [(_, _), (_, _), (_, _), (_, _)]) rfl | exact binds_K (binds := [(_, _), (_, _), (_, _), (_, _)]) (by k_in) rfl (by k_is) rfl rfl rfl) | ((with_reducible show BindsTo _ _ ⟨[_, _, _, _, _], []⟩ _); first | exact BindsTo.of_eq (binds := [(_, _), (_, _), (_, _), (_, _), (_, _)]) rfl | exact binds_K (binds := [(_, _), (_, _), (_, _), (_, _), (_, _)]) (by k_in) rfl (by k_is) rfl rfl rfl)); (case c5 => decide); (case kB => exact locs rfl); (case c2 => exact rfl); (case c3 => exact rfl); (case c4 => exact rfl); k_whole; intro oL' L' h' tk' F' N' l1 n1; (try k_lt l1); (try (replace n1 := allNe_of n1; simp only [AllNe, and_true] at n1)); (try dsimp only))))
local macro_rules | `(tactic| walk_at "call builtin:str.join") => `(tactic| (k_here; (with_reducible show wpAny _ _ (call (Value.builtin "str.join") [Value.str _ _, Value.ref _]) _ _ _); k_dflt (refine join_listC (by is_list) (by repeat constructor) (by decide) (by (simp only [List.map_cons, List.map_nil, List.sum_cons, List.sum_nil, List.length_cons, List.length_nil]; omega)) ?_); intro t' k'))
local macro_rules | `(tactic| walk_at "getMethod type:Exception") => `(tactic| (k_here; refine' method_type ?F ?X ?m (by decide +kernel) ?e ?h ?_; (case F => k_asm); (case X => k_asm); (case m => exact meta_Exception); (case e => k_dflt k_is); (case h => k_handed)))
local macro_rules | `(tactic| walk_at "compareOp IsNot") => `(tactic| (k_here; k_dflt (refine isNot_none (by assumption) ?_)))
local macro_rules | `(tactic| walk_at "call builtin:str.format") => `(tactic| (k_here; k_dflt (refine' line_use ?k1 ?k2 ?k3 ?k4 ?k5 ?k6 ?k7 ?_; (case k1 => assumption); (case k2 => k_asm); (case k3 => k_asm); (case k4 => exact rfl); (case k5 => exact rfl); (case k6 => exact Nat.le_of_ble_eq_true rfl); (case k7 => exact Nat.le_of_ble_eq_true rfl); k_whole; intro h' u' tk' F' N')))
theorem con60a : ∀ {p : Program} {loose : List Str} {mean : ExcName → Option Value} {mg mb : Str → Option Value} (w : World) (s : Shared) (sec n : Value) (rs : Str) (R1 : Reprs PySem.Challenge.rw_dm0028_05.prog w s.heap sec rs)
    (Q E : Value → Shared → Prop) (KX : (hx.heap_39 w.params).In s.heap) (T : Top p loose mean mg mb s.heap)
    (hQ : ∀ h' tk e d ta od u, Grow s.heap h' → ErrNew s.heap h' 60 e d ta od (Txt.join (Str.ofString "") [Str.ofString "Section ", rs, Str.ofString " already exists"]) u [("section", sec), ("source", .none), ("lineno", n)] [sec, .none, n] → Q (.ref e) { s with heap := h', toks := tk }),
    wpAny (model PySem.Challenge.rw_dm0028_05.prog w) (AD 600 2000) (call (.ref 60) [sec, .none, n]) Q E s := by
  w_top off
  k_fill
  intro p loose mean mg mb w s sec n rs R1 Q E KX T hQ
  obtain ⟨hh, g, dr, tk, os⟩ := s
  dsimp only at KX T R1 hQ
  have lq0 : (Str.ofString "Section ").length ≤ 200 := Nat.le_of_ble_eq_true rfl
  have lq1 : (Str.ofString " already exists").length ≤ 200 := Nat.le_of_ble_eq_true rfl
  have sq0 := R1.short
  w_strict (
  refine wpAny_call ?_
  refine exc_make (KX 60 _ (by k_is)) (by decide +kernel) (by decide +kernel) (by decide +kernel) (looks_specialIn KX (by k_is)) (looks_instIn KX (by k_is)) (looks_findIn KX (by k_is)) (fun self => bind_fn KX self (by k_is)) (by size_fits) ?_
  k_dflt (refine' enter_new (h₀ := hh) (binds := [("self", .ref (hh.objs.size + 1)), ("section", sec), ("source", .none), ("lineno", n)]) (news := [(hh.objs.size + 1, excObj 60 none hh.objs.size), (hh.objs.size, tupObj [sec, .none, n])]) ?k1 ?k2 KX T.nolimit ?k9 ?k5 ?k6 ?k7 ?k8 ?kB ?c2 ?c3 ?c4 ?c5 ?_; (case k5 => k_is); (case k6 => k_is); (case k7 => exact Nat.le_of_ble_eq_true rfl); (case k8 => first | exact BindsTo.of_eq rfl | exact binds_K (Frag.In.keeps KX (made_grow _ _ _)) rfl (by k_is) rfl rfl rfl); (case c5 => decide); (case kB => exact locs rfl); (case c2 => exact rfl); (case c3 => exact rfl); (case c4 => exact rfl); (case k1 => exact made_grow _ _ _); (case k2 => (simp; omega)); (case k9 => exact made_news _ _ _))
  intro L' h' tk' F' N' l1; k_lt l1
  k_steps
  refine ⟨rfl, ?_⟩
  (with_reducible rename Fr _ _ _ _ => Fz)
  (with_reducible rename News _ _ _ _ => Nz)
  refine hQ _ _ _ _ _ _ _ Fz.keep (err_close Nz (by k_mem) (by k_mem) (by k_mem) (Eq.trans (lookIn_dict _ _ _) (by k_get)) ?_)
  intro q hq
  simp only [List.mem_cons, List.not_mem_nil, or_false] at hq
  rcases hq with rfl | rfl | rfl <;> kernel_rfl)

theorem con60b : ∀ {p : Program} {loose : List Str} {mean : ExcName → Option Value} {mg mb : Str → Option Value} (w : World) (s : Shared) (sec src : Value) (n : Int) (nt : Tok) (hn : src ≠ .none) (rs : Str) (R1 : Reprs PySem.Challenge.rw_dm0028_05.prog w s.heap sec rs) (rc : Str) (R2 : Reprs PySem.Challenge.rw_dm0028_05.prog w s.heap src rc) (ln : Str) (R3 : Lines PySem.Challenge.rw_dm0028_05.prog w n ln)
    (Q E : Value → Shared → Prop) (KX : (hx.heap_39 w.params).In s.heap) (T : Top p loose mean mg mb s.heap)
    (hQ : ∀ h' tk e d ta od u, Grow s.heap h' → ErrNew s.heap h' 60 e d ta od (Txt.join (Str.ofString "") [Str.ofString "While reading from ", rc, ln, Str.ofString ": section ", rs, Str.ofString " already exists"]) u [("section", sec), ("source", src), ("lineno", .int n nt)] [sec, src, .int n nt] → Q (.ref e) { s with heap := h', toks := tk }),
    wpAny (model PySem.Challenge.rw_dm0028_05.prog w) (AD 600 2000) (call (.ref 60) [sec, src, .int n nt]) Q E s := by
  w_top off
  k_fill
  intro p loose mean mg mb w s sec src n nt hn rs R1 rc R2 ln R3 Q E KX T hQ
  obtain ⟨hh, g, dr, tk, os⟩ := s
  dsimp only at KX T R1 R2 hQ
  have lq0 : (Str.ofString "While reading from ").length ≤ 200 := Nat.le_of_ble_eq_true rfl
  have lq1 : (Str.ofString ": section ").length ≤ 200 := Nat.le_of_ble_eq_true rfl
  have lq2 : (Str.ofString " already exists").length ≤ 200 := Nat.le_of_ble_eq_true rfl
  have sq0 := R1.short
  have sq1 := R2.short
  have sq2 := R3.short
  w_strict (
  refine wpAny_call ?_
  refine exc_make (KX 60 _ (by k_is)) (by decide +kernel) (by decide +kernel) (by decide +kernel) (looks_specialIn KX (by k_is)) (looks_instIn KX (by k_is)) (looks_findIn KX (by k_is)) (fun self => bind_fn KX self (by k_is)) (by size_fits) ?_
  k_dflt (refine' enter_new (h₀ := hh) (binds := [("self", .ref (hh.objs.size + 1)), ("section", sec), ("source", src), ("lineno", .int n nt)]) (news := [(hh.objs.size + 1, excObj 60 none hh.objs.size), (hh.objs.size, tupObj [sec, src, .int n nt])]) ?k1 ?k2 KX T.nolimit ?k9 ?k5 ?k6 ?k7 ?k8 ?kB ?c2 ?c3 ?c4 ?c5 ?_; (case k5 => k_is); (case k6 => k_is); (case k7 => exact Nat.le_of_ble_eq_true rfl); (case k8 => first | exact BindsTo.of_eq rfl | exact binds_K (Frag.In.keeps KX (made_grow _ _ _)) rfl (by k_is) rfl rfl rfl); (case c5 => decide); (case kB => exact locs rfl); (case c2 => exact rfl); (case c3 => exact rfl); (case c4 => exact rfl); (case k1 => exact made_grow _ _ _); (case k2 => (simp; omega)); (case k9 => exact made_news _ _ _))
  intro L' h' tk' F' N' l1; k_lt l1
  k_steps
  refine ⟨rfl, ?_⟩
  (with_reducible rename Fr _ _ _ _ => Fz)
  (with_reducible rename News _ _ _ _ => Nz)
  refine hQ _ _ _ _ _ _ _ Fz.keep (err_close Nz (by k_mem) (by k_mem) (by k_mem) (Eq.trans (lookIn_dict _ _ _) (by k_get)) ?_)
  intro q hq
  simp only [List.mem_cons, List.not_mem_nil, or_false] at hq
  rcases hq with rfl | rfl | rfl <;> kernel_rfl)

theorem con80a : ∀ {p : Program} {loose : List Str} {mean : ExcName → Option Value} {mg mb : Str → Option Value} (w : World) (s : Shared) (sec opt n : Value) (rs : Str) (R1 : Reprs PySem.Challenge.rw_dm0028_05.prog w s.heap sec rs) (ro : Str) (R2 : Reprs PySem.Challenge.rw_dm0028_05.prog w s.heap opt ro)
    (Q E : Value → Shared → Prop) (KX : (hx.heap_39 w.params).In s.heap) (T : Top p loose mean mg mb s.heap)
    (hQ : ∀ h' tk e d ta od u, Grow s.heap h' → ErrNew s.heap h' 80 e d ta od (Txt.join (Str.ofString "") [Str.ofString "Option ", ro, Str.ofString " in section ", rs, Str.ofString " already exists"]) u [("section", sec), ("option", opt), ("source", .none), ("lineno", n)] [sec, opt, .none, n] → Q (.ref e) { s with heap := h', toks := tk }),
    wpAny (model PySem.Challenge.rw_dm0028_05.prog w) (AD 600 2000) (call (.ref 80) [sec, opt, .none, n]) Q E s := by
  w_top off
  k_fill
  intro p loose mean mg mb w s sec opt n rs R1 ro R2 Q E KX T hQ
  obtain ⟨hh, g, dr, tk, os⟩ := s
  dsimp only at KX T R1 R2 hQ
  have lq0 : (Str.ofString "Option ").length ≤ 200 := Nat.le_of_ble_eq_true rfl
  have lq1 : (Str.ofString " in section ").length ≤ 200 := Nat.le_of_ble_eq_true rfl
  have lq2 : (Str.ofString " already exists").length ≤ 200 := Nat.le_of_ble_eq_true rfl
  have sq0 := R1.short
  have sq1 := R2.short
  w_strict (
  refine wpAny_call ?_
  refine exc_make (KX 80 _ (by k_is)) (by decide +kernel) (by decide +kernel) (by decide +kernel) (looks_specialIn KX (by k_is)) (looks_instIn KX (by k_is)) (looks_findIn KX (by k_is)) (fun self => bind_fn KX self (by k_is)) (by size_fits) ?_
  k_dflt (refine' enter_new (h₀ := hh) (binds := [("self", .ref (hh.objs.size + 1)), ("section", sec), ("option", opt), ("source", .none), ("lineno", n)]) (news := [(hh.objs.size + 1, excObj 80 none hh.objs.size), (hh.objs.size, tupObj [sec, opt, .none, n])]) ?k1 ?k2 KX T.nolimit ?k9 ?k5 ?k6 ?k7 ?k8 ?kB ?c2 ?c3 ?c4 ?c5 ?_; (case k5 => k_is); (case k6 => k_is); (case k7 => exact Nat.le_of_ble_eq_true rfl); (case k8 => first | exact BindsTo.of_eq rfl | exact binds_K (Frag.In.keeps KX (made_grow _ _ _)) rfl (by k_is) rfl rfl rfl); (case c5 => decide); (case kB => exact locs rfl); (case c2 => exact rfl); (case c3 => exact rfl); (case c4 => exact rfl); (case k1 => exact made_grow _ _ _); (case k2 => (simp; omega)); (case k9 => exact made_news _ _ _))
  intro L' h' tk' F' N' l1; k_lt l1
  k_steps
  refine ⟨rfl, ?_⟩
  (with_reducible rename Fr _ _ _ _ => Fz)
  (with_reducible rename News _ _ _ _ => Nz)
  refine hQ _ _ _ _ _ _ _ Fz.keep (err_close Nz (by k_mem) (by k_mem) (by k_mem) (Eq.trans (lookIn_dict _ _ _) (by k_get)) ?_)
  intro q hq
  simp only [List.mem_cons, List.not_mem_nil, or_false] at hq
  rcases hq with rfl | rfl | rfl | rfl <;> kernel_rfl)

theorem con80b : ∀ {p : Program} {loose : List Str} {mean : ExcName → Option Value} {mg mb : Str → Option Value} (w : World) (s : Shared) (sec opt src : Value) (n : Int) (nt : Tok) (hn : src ≠ .none) (rs : Str) (R1 : Reprs PySem.Challenge.rw_dm0028_05.prog w s.heap sec rs) (ro : Str) (R2 : Reprs PySem.Challenge.rw_dm0028_05.prog w s.heap opt ro) (rc : Str) (R3 : Reprs PySem.Challenge.rw_dm0028_05.prog w s.heap src rc) (ln : Str) (R4 : Lines PySem.Challenge.rw_dm0028_05.prog w n ln)
    (Q E : Value → Shared → Prop) (KX : (hx.heap_39 w.params).In s.heap) (T : Top p loose mean mg mb s.heap)
    (hQ : ∀ h' tk e d ta od u, Grow s.heap h' → ErrNew s.heap h' 80 e d ta od (Txt.join (Str.ofString "") [Str.ofString "While reading from ", rc, ln, Str.ofString ": option ", ro, Str.ofString " in section ", rs, Str.ofString " already exists"]) u [("section", sec), ("option", opt), ("source", src), ("lineno", .int n nt)] [sec, opt, src, .int n nt] → Q (.ref e) { s with heap := h', toks := tk }),
    wpAny (model PySem.Challenge.rw_dm0028_05.prog w) (AD 600 2000) (call (.ref 80) [sec, opt, src, .int n nt]) Q E s := by
  w_top off
  k_fill
  intro p loose mean mg mb w s sec opt src n nt hn rs R1 ro R2 rc R3 ln R4 Q E KX T hQ
  obtain ⟨hh, g, dr, tk, os⟩ := s
  dsimp only at KX T R1 R2 R3 hQ
  have lq0 : (Str.ofString "While reading from ").length ≤ 200 := Nat.le_of_ble_eq_true rfl
  have lq1 : (Str.ofString ": option ").length ≤ 200 := Nat.le_of_ble_eq_true rfl
  have lq2 : (Str.ofString " in section ").length ≤ 200 := Nat.le_of_ble_eq_true rfl
  have lq3 : (Str.ofString " already exists").length ≤ 200 := Nat.le_of_ble_eq_true rfl
  have sq0 := R1.short
  have sq1 := R2.short
  have sq2 := R3.short
  have sq3 := R4.short
  w_strict (
  refine wpAny_call ?_
  refine exc_make (KX 80 _ (by k_is)) (by decide +kernel) (by decide +kernel) (by decide +kernel) (looks_specialIn KX (by k_is)) (looks_instIn KX (by k_is)) (looks_findIn KX (by k_is)) (fun self => bind_fn KX self (by k_is)) (by size_fits) ?_
  k_dflt (refine' enter_new (h₀ := hh) (binds := [("self", .ref (hh.objs.size + 1)), ("section", sec), ("option", opt), ("source", src), ("lineno", .int n nt)]) (news := [(hh.objs.size + 1, excObj 80 none hh.objs.size), (hh.objs.size, tupObj [sec, opt, src, .int n nt])]) ?k1 ?k2 KX T.nolimit ?k9 ?k5 ?k6 ?k7 ?k8 ?kB ?c2 ?c3 ?c4 ?c5 ?_; (case k5 => k_is); (case k6 => k_is); (case k7 => exact Nat.le_of_ble_eq_true rfl); (case k8 => first | exact BindsTo.of_eq rfl | exact binds_K (Frag.In.keeps KX (made_grow _ _ _)) rfl (by k_is) rfl rfl rfl); (case c5 => decide); (case kB => exact locs rfl); (case c2 => exact rfl); (case c3 => exact rfl); (case c4 => exact rfl); (case k1 => exact made_grow _ _ _); (case k2 => (simp; omega)); (case k9 => exact made_news _ _ _))
  intro L' h' tk' F' N' l1; k_lt l1
  k_steps
  refine ⟨rfl, ?_⟩
  (with_reducible rename Fr _ _ _ _ => Fz)
  (with_reducible rename News _ _ _ _ => Nz)
  refine hQ _ _ _ _ _ _ _ Fz.keep (err_close Nz (by k_mem) (by k_mem) (by k_mem) (Eq.trans (lookIn_dict _ _ _) (by k_get)) ?_)
  intro q hq
  simp only [List.mem_cons, List.not_mem_nil, or_false] at hq
  rcases hq with rfl | rfl | rfl | rfl <;> kernel_rfl)
end Mine
end
section
open PySem PySem.W PySem.W.X PySem.Calls PyProof.Rows
set_option Elab.async false
set_option maxRecDepth 100000
set_option maxHeartbeats 8000000
set_option linter.unusedVariables false
namespace Mine
local macro_rules | `(tactic| walk_at "mine drop") => `(tactic| first | (refine' Drop.head ?a; (case a => k_all)) | (refine' Drop.tail ?a ?b; (case a => k_ne); (case b => walk_at "mine drop")))
local macro_rules | `(tactic| walk_at "setAttr ref") => `(tactic| (k_here; k_dflt (first
  | (refine' exc_set0 (news' := ?nw) ?k1 ?k2 ?k3 ?k4 ?k5 ?k6 ?k7 ?k8 ?k9 ?_; (case k1 => k_asm); (case k2 => k_asm); (case k3 => k_asm); (case k4 => k_mem); (case k5 => k_is); (case k6 => kernel_rfl); (case k7 => k_is); (case k8 => k_is); (case k9 => intro d; k_upd); k_whole; intro d' h' F' N' l1; (try k_lt l1))
  | (refine' exc_set_args ?k1 ?k2 ?k3 ?k4 ?k5 ?k6 ?k7 ?k8 ?k9 ?k10 ?_; (case k1 => k_asm); (case k2 => k_asm); (case k3 => k_asm); (case k4 => first | (refine' InstAt.of_exc ?N ?h1 ?h2; (case N => k_asm); (case h1 => k_mem); (case h2 => k_mem)) | (refine' InstAt.of_exc0 ?N ?h1; (case N => k_asm); (case h1 => k_mem))); (case k5 => exact isTup_of (by k_asm) (by k_mem)); (case k6 => k_is); (case k7 => kernel_rfl); (case k8 => k_is); (case k9 => k_is); (case k10 => k_upd); k_whole; intro h' F' N')
  | (refine' exc_set ?k1 ?k2 ?k3 ?k4 ?k5 ?k6 ?k7 ?k8 ?k9 ?k10 ?k11 ?k12 ?_; (case k1 => k_asm); (case k2 => k_asm); (case k3 => k_asm); (case k4 => first | (refine' InstAt.of_exc ?N ?h1 ?h2; (case N => k_asm); (case h1 => k_mem); (case h2 => k_mem)) | (refine' InstAt.of_exc0 ?N ?h1; (case N => k_asm); (case h1 => k_mem))); (case k5 => k_is); (case k6 => kernel_rfl); (case k7 => k_is); (case k8 => k_is); (case k9 => k_get); (case k10 => k_put); (case k11 => k_upd); (case k12 => exact Nat.le_of_ble_eq_true rfl); k_whole; intro h' F' N'))))
local macro_rules | `(tactic| walk_at "call builtin:Exception.__init__") => `(tactic| (k_here; k_dflt (refine' exc_init_call (news'' := ?nw) ?k1 ?k2 ?k3 ?k4 ?k5 ?k6 ?_; (case k1 => k_asm); (case k2 => k_asm); (case k3 => k_asm); (case k4 => first | (refine' InstAt.of_exc ?N ?h1 ?h2; (case N => k_asm); (case h1 => k_mem); (case h2 => k_mem)) | (refine' InstAt.of_exc0 ?N ?h1; (case N => k_asm); (case h1 => k_mem))); (case k5 => k_is); (case k6 => intro t; k_upd); k_whole; intro t' h' F' N' l1; (try k_lt l1))))
local macro_rules | `(tactic| walk_at "call builtin:repr") => `(tactic| (k_here; k_dflt (refine' repr_use ?k1 ?k2 ?k3 ?k4 ?k5 ?k6 ?k7 ?_; (case k1 => assumption); (case k2 => k_asm); (case k3 => k_asm); (case k4 => exact rfl); (case k5 => exact rfl); (case k6 => exact Nat.le_of_ble_eq_true rfl); (case k7 => exact Nat.le_of_ble_eq_true rfl); k_whole; intro h' u' tk' F' N')))
local macro_rules | `(tactic| walk_at "BackIn") => `(tactic| (k_dflt (refine' back_ ?k1 ?k2 ?k3 ?_; (case k1 => k_asm); (case k2 => k_asm); (case k3 => walk_at "mine drop"); k_whole; intro F' N'; (try dsimp only))))
local macro_rules | `(tactic| walk_at "call ref") => `(tactic| (k_here; k_dflt (refine wpAny_call ?_; refine' enter_in ?k1 ?k2 ?k3 ?k4 ?k5 ?k6 ?k7 ?k8 ?kB ?c2 ?c3 ?c4 ?c5 ?_; (case k1 => k_asm); (case k2 => k_asm); (case k3 => k_asm); (case k4 => exact Top.nolimit (by assumption)); (case k5 => k_is); (case k6 => k_is); (case k7 => exact Nat.le_of_ble_eq_true rfl); (case k8 => first | ((with_reducible show BindsTo _ _ ⟨[_], []⟩ _); first | exact BindsTo.of_eq (binds := [(_, _)]) rfl | exact binds_K (binds := [(_, _)]) (by k_in) rfl (by k_is) rfl rfl rfl) | ((with_reducible show BindsTo _ _ ⟨[_, _], []⟩ _); first | exact BindsTo.of_eq (binds := [(_, _), (_, _)]) rfl | exact binds_K (binds := [(_, _), (_, _)]) (by k_in) rfl (by k_is) rfl rfl rfl) | ((with_reducible show BindsTo _ _ ⟨[_, _, _], []⟩ _); first | exact BindsTo.of_eq (binds := [(_, _), (_, _), (_, _)]) rfl | exact binds_K (binds := [(_, _), (_, _), (_, _)]) (by k_in) rfl (by k_is) rfl rfl rfl) | ((with_reducible show BindsTo _ _ ⟨[_, _, _, _], []⟩ _); first | exact BindsTo.of_eq (binds := [(_, _), (_, _), (_, _), (_, _)]) rfl | exact binds_K (binds := [(_, _), (_, _), (_, _), (_, _)]) (by k_in) rfl (by k_is) rfl rfl rfl) | ((with_reducible show BindsTo _ _ ⟨[_, _, _, _, _], []⟩ _); first | exact BindsTo.of_eq (binds := [(_, _), (_, _), (_, _), (_, _), (_, _)]) rfl | exact binds_K (binds := [(_, _), (_, _), (_, _), (_, _), (_, _)]) (by k_in) rfl (by k_is) rfl rfl rfl)); (case c5 => decide); (case kB => exact locs rfl); (case c2 => exact rfl); (case c3 => exact rfl); (case c4 => exact rfl); k_whole; intro oL' L' h' tk' F' N' l1 n1; (try k_lt l1); (try (replace n1 := allNe_of n1; simp only [AllNe, and_true] at n1)); (try dsimp only))))
local macro_rules | `(tactic| walk_at "call builtin:str.join") => `(tactic| (k_here; (with_reducible show wpAny _ _ (call (Value.builtin "str.join") [Value.str _ _, Value.ref _]) _ _ _); k_dflt (refine join_listC (by is_list) (by repeat constructor) (by decide) (by (simp only [List.map_cons, List.map_nil, List.sum_cons, List.sum_nil, List.length_cons, List.length_nil]; omega)) ?_); intro t' k'))
local macro_rules | `(tactic| walk_at "getMethod type:Exception") => `(tactic| (k_here; refine' method_type ?F ?X ?m (by decide +kernel) ?e ?h ?_; (case F => k_asm); (case X => k_asm); (case m => exact meta_Exception); (case e => k_dflt k_is); (case h => k_handed)))
local macro_rules | `(tactic| walk_at "compareOp IsNot") => `(tactic| (k_here; k_dflt (refine isNot_none (by assumption) ?_)))
local macro_rules | `(tactic| walk_at "call builtin:str.format") => `(tactic| (k_here; k_dflt (refine' line_use ?k1 ?k2 ?k3 ?k4 ?k5 ?k6 ?k7 ?_; (case k1 => assumption); (case k2 => k_asm); (case k3 => k_asm); (case k4 => exact rfl); (case k5 => exact rfl); (case k6 => exact Nat.le_of_ble_eq_true rfl); (case k7 => exact Nat.le_of_ble_eq_true rfl); k_whole; intro h' u' tk' F' N')))
def Quot (x : Str) : Prop := ((Builtin.Str.occurrences x (Str.ofString "'") 0 x.length 1).isEmpty = true → Str.ofString "'" ++ x ++ Str.ofString "'" = reprText x) ∧ ((Builtin.Str.occurrences x (Str.ofString "'") 0 x.length 1).isEmpty = false → Str.ofString "\"" ++ x ++ Str.ofString "\"" = reprText x) ∧ (reprText x).length ≤ 200 ∧ x.length ≤ 200 ∧ PyData.strOk x = true ∧ PyData.strOk (reprText x) = true
theorem quot05 : ∀ {p : Program} {loose : List Str} {mean : ExcName → Option Value} {mg mb : Str → Option Value} (w : World) (s : Shared) (x : Str) (t : Tok) (hq : Quot x)
    (Q E : Value → Shared → Prop) (KX : (hx.heap_39 w.params).In s.heap) (T : Top p loose mean mg mb s.heap)
    (hQ : ∀ h' tk u, Grow s.heap h' → Q (.str (reprText x) u) { s with heap := h', toks := tk }),
    wpAny (model PySem.Challenge.rw_dm0028_05.prog w) (AD 600 2000) (call (.ref 89) [.str x t]) Q E s := by
  w_top off
  k_fill
  intro p loose mean mg mb w s x t hq Q E KX T hQ
  have hl := hq.2.2.2.1
  obtain ⟨hh, g, dr, tk, os⟩ := s
  dsimp only at KX T hQ
  w_strict (
  refine wpAny_call ?_
  k_dflt (refine' enter_new (h₀ := hh) (binds := [("text", .str x t)]) (news := []) ?k1 ?k2 KX T.nolimit ?k9 ?k5 ?k6 ?k7 ?k8 ?kB ?c2 ?c3 ?c4 ?c5 ?_; (case k5 => k_is); (case k6 => k_is); (case k7 => exact Nat.le_of_ble_eq_true rfl); (case k8 => first | exact BindsTo.of_eq rfl | exact binds_K KX rfl (by k_is) rfl rfl rfl); (case c5 => decide); (case kB => exact locs rfl); (case c2 => exact rfl); (case c3 => exact rfl); (case c4 => exact rfl); (case k1 => exact fun _ _ e => e); (case k2 => exact Nat.le_refl _); (case k9 => exact List.forall_mem_nil _))
  intro L' h' tk' F' N' l1
  k_steps
  · dsimp only
    rw [hq.1 (by assumption)]
    exact hQ _ _ _ F'.keep
  · dsimp only
    rw [hq.2.1 (by assumption)]
    exact hQ _ _ _ F'.keep)
theorem quots05 : ∀ x ∈ [Str.ofString "s", Str.ofString "it's [line  1]", Str.ofString "o", Str.ofString "[line -7]", Str.ofString "a.ini", Str.ofString "b [line 10]: option 'o'", Str.ofString ""], Quot x := by
  unfold Quot
  decide +kernel
end Mine
end
section
open PySem PySem.W PySem.W.X PySem.Calls PyProof.Rows
set_option Elab.async false
set_option maxRecDepth 100000
set_option maxHeartbeats 8000000
set_option linter.unusedVariables false
namespace Mine
local macro_rules | `(tactic| walk_at "mine drop") => `(tactic| first | (refine' Drop.head ?a; (case a => k_all)) | (refine' Drop.tail ?a ?b; (case a => k_ne); (case b => walk_at "mine drop")))
local macro_rules | `(tactic| walk_at "setAttr ref") => `(tactic| (k_here; k_dflt (first
  | (refine' exc_set0 (news' := ?nw) ?k1 ?k2 ?k3 ?k4 ?k5 ?k6 ?k7 ?k8 ?k9 ?_; (case k1 => k_asm); (case k2 => k_asm); (case k3 => k_asm); (case k4 => k_mem); (case k5 => k_is); (case k6 => kernel_rfl); (case k7 => k_is); (case k8 => k_is); (case k9 => intro d; k_upd); k_whole; intro d' h' F' N' l1; (try k_lt l1))
  | (refine' exc_set_args ?k1 ?k2 ?k3 ?k4 ?k5 ?k6 ?k7 ?k8 ?k9 ?k10 ?_; (case k1 => k_asm); (case k2 => k_asm); (case k3 => k_asm); (case k4 => first | (refine' InstAt.of_exc ?N ?h1 ?h2; (case N => k_asm); (case h1 => k_mem); (case h2 => k_mem)) | (refine' InstAt.of_exc0 ?N ?h1; (case N => k_asm); (case h1 => k_mem))); (case k5 => exact isTup_of (by k_asm) (by k_mem)); (case k6 => k_is); (case k7 => kernel_rfl); (case k8 => k_is); (case k9 => k_is); (case k10 => k_upd); k_whole; intro h' F' N')
  | (refine' exc_set ?k1 ?k2 ?k3 ?k4 ?k5 ?k6 ?k7 ?k8 ?k9 ?k10 ?k11 ?k12 ?_; (case k1 => k_asm); (case k2 => k_asm); (case k3 => k_asm); (case k4 => first | (refine' InstAt.of_exc ?N ?h1 ?h2; (case N => k_asm); (case h1 => k_mem); (case h2 => k_mem)) | (refine' InstAt.of_exc0 ?N ?h1; (case N => k_asm); (case h1 => k_mem))); (case k5 => k_is); (case k6 => kernel_rfl); (case k7 => k_is); (case k8 => k_is); (case k9 => k_get); (case k10 => k_put); (case k11 => k_upd); (case k12 => exact Nat.le_of_ble_eq_true rfl); k_whole; intro h' F' N'))))
local macro_rules | `(tactic| walk_at "call builtin:Exception.__init__") => `(tactic| (k_here; k_dflt (refine' exc_init_call (news'' := ?nw) ?k1 ?k2 ?k3 ?k4 ?k5 ?k6 ?_; (case k1 => k_asm); (case k2 => k_asm); (case k3 => k_asm); (case k4 => first | (refine' InstAt.of_exc ?N ?h1 ?h2; (case N => k_asm); (case h1 => k_mem); (case h2 => k_mem)) | (refine' InstAt.of_exc0 ?N ?h1; (case N => k_asm); (case h1 => k_mem))); (case k5 => k_is); (case k6 => intro t; k_upd); k_whole; intro t' h' F' N' l1; (try k_lt l1))))
local macro_rules | `(tactic| walk_at "call builtin:repr") => `(tactic| (k_here; k_dflt (refine' repr_use ?k1 ?k2 ?k3 ?k4 ?k5 ?k6 ?k7 ?_; (case k1 => assumption); (case k2 => k_asm); (case k3 => k_asm); (case k4 => exact rfl); (case k5 => exact rfl); (case k6 => exact Nat.le_of_ble_eq_true rfl); (case k7 => exact Nat.le_of_ble_eq_true rfl); k_whole; intro h' u' tk' F' N')))
local macro_rules | `(tactic| walk_at "BackIn") => `(tactic| (k_dflt (refine' back_ ?k1 ?k2 ?k3 ?_; (case k1 => k_asm); (case k2 => k_asm); (case k3 => walk_at "mine drop"); k_whole; intro F' N'; (try dsimp only))))
local macro_rules | `(tactic| walk_at "call ref") => `(tactic| (k_here; k_dflt (refine wpAny_call ?_; refine' enter_in ?k1 ?k2 ?k3 ?k4 ?k5 ?k6 ?k7 ?k8 ?kB ?c2 ?c3 ?c4 ?c5 ?_; (case k1 => k_asm); (case k2 => k_asm); (case k3 => k_asm); (case k4 => exact Top.nolimit (by assumption)); (case k5 => k_is); (case k6 => k_is); (case k7 => exact Nat.le_of_ble_eq_true rfl); (case k8 => first | ((with_reducible show BindsTo _ _ ⟨[_], []⟩ _); first | exact BindsTo.of_eq (binds := [(_, _)]) rfl | exact binds_K (binds := [(_, _)]) (by k_in) rfl (by k_is) rfl rfl rfl) | ((with_reducible show BindsTo _ _ ⟨[_, _], []⟩ _); first | exact BindsTo.of_eq (binds := [(_, _), (_, _)]) rfl | exact binds_K (binds := [(_, _), (_, _)]) (by k_in) rfl (by k_is) rfl rfl rfl) | ((with_reducible show BindsTo _ _ ⟨[_, _, _], []⟩ _); first | exact BindsTo.of_eq (binds := [(_, _), (_, _), (_, _)]) rfl | exact binds_K (binds := [(_, _), (_, _), (_, _)]) (by k_in) rfl (by k_is) rfl rfl rfl) | ((with_reducible show BindsTo _ _ ⟨[_, _, _, _], []⟩ _); first | exact BindsTo.of_eq (binds := [(_, _), (_, _), (_, _), (_, _)]) rfl | exact binds_K (binds := [(_, _), (_, _), (_, _), (_, _)]) (by k_in) rfl (by k_is) rfl rfl rfl) | ((with_reducible show BindsTo _ _ ⟨[_, _, _, _, _], []⟩ _); first | exact BindsTo.of_eq (binds := [(_, _), (_, _), (_, _), (_, _), (_, _)]) rfl | exact binds_K (binds := [(_, _), (_, _), (_, _), (_, _), (_, _)]) (by k_in) rfl (by k_is) rfl rfl rfl)); (case c5 => decide); (case kB => exact locs rfl); (case c2 => exact rfl); (case c3 => exact rfl); (case c4 => exact rfl); k_whole; intro oL' L' h' tk' F' N' l1 n1; (try k_lt l1); (try (replace n1 := allNe_of n1; simp only [AllNe, and_true] at n1)); (try dsimp only))))
local macro_rules | `(tactic| walk_at "call builtin:str.join") => `(tactic| (k_here; (with_reducible show wpAny _ _ (call (Value.builtin "str.join") [Value.str _ _, Value.ref _]) _ _ _); k_dflt (refine join_listC (by is_list) (by repeat constructor) (by decide) (by (simp only [List.map_cons, List.map_nil, List.sum_cons, List.sum_nil, List.length_cons, List.length_nil]; omega)) ?_); intro t' k'))
local macro_rules | `(tactic| walk_at "getMethod type:Exception") => `(tactic| (k_here; refine' method_type ?F ?X ?m (by decide +kernel) ?e ?h ?_; (case F => k_asm); (case X => k_asm); (case m => exact meta_Exception); (case e => k_dflt k_is); (case h => k_handed)))
local macro_rules | `(tactic| walk_at "compareOp IsNot") => `(tactic| (k_here; k_dflt (refine isNot_none (by assumption) ?_)))
local macro_rules | `(tactic| walk_at "call builtin:str.format") => `(tactic| (k_here; k_dflt (refine' line_use ?k1 ?k2 ?k3 ?k4 ?k5 ?k6 ?k7 ?_; (case k1 => assumption); (case k2 => k_asm); (case k3 => k_asm); (case k4 => exact rfl); (case k5 => exact rfl); (case k6 => exact Nat.le_of_ble_eq_true rfl); (case k7 => exact Nat.le_of_ble_eq_true rfl); k_whole; intro h' u' tk' F' N')))
local macro_rules | `(tactic| walk_at "getAttr ref") => `(tactic| (k_here; k_dflt (refine' err_get0 ?k1 ?k2 ?k3 ?k4 ?k5 ?k6 ?k7 ?k8 ?k9 ?k10 ?_; (case k1 => k_asm); (case k2 => k_asm); (case k3 => assumption); (case k4 => assumption); (case k5 => assumption); (case k6 => kernel_rfl); (case k7 => k_is); (case k8 => k_is); (case k9 => k_is); (case k10 => exact rfl))))
theorem msg60 : ∀ {p : Program} {loose : List Str} {mean : ExcName → Option Value} {mg mb : Str → Option Value} (w : World) (s : Shared) (e d ta : Addr) (od : Obj) (msg : Str) (u : Tok)
    (Q E : Value → Shared → Prop) (KX : (hx.heap_39 w.params).In s.heap) (T : Top p loose mean mg mb s.heap) (he : s.heap.get? e = some (excObj 60 (some d) ta)) (hd : s.heap.get? d = some od) (hm : lookIn "message" od = some (some (.str msg u)))
    (hQ : ∀ h' tk, Grow s.heap h' → Q (.str msg u) { s with heap := h', toks := tk }),
    wpAny (model PySem.Challenge.rw_dm0028_05.prog w) (AD 610 2100) (call (.ref 36) [.ref e]) Q E s := by
  w_top off
  k_fill
  intro p loose mean mg mb w s e d ta od msg u Q E KX T he hd hm hQ
  obtain ⟨hh, g, dr, tk, os⟩ := s
  dsimp only at KX T he hd hQ
  w_strict (
  refine wpAny_call ?_
  k_dflt (refine' enter_new (h₀ := hh) (binds := [("self", .ref e)]) (news := []) ?k1 ?k2 KX T.nolimit ?k9 ?k5 ?k6 ?k7 ?k8 ?kB ?c2 ?c3 ?c4 ?c5 ?_; (case k5 => k_is); (case k6 => k_is); (case k7 => exact Nat.le_of_ble_eq_true rfl); (case k8 => first | exact BindsTo.of_eq rfl | exact binds_K KX rfl (by k_is) rfl rfl rfl); (case c5 => decide); (case kB => exact locs rfl); (case c2 => exact rfl); (case c3 => exact rfl); (case c4 => exact rfl); (case k1 => exact fun _ _ e => e); (case k2 => exact Nat.le_refl _); (case k9 => exact List.forall_mem_nil _))
  intro L' h' tk' F' N' l1
  k_steps
  dsimp only
  exact hQ _ _ F'.keep)
theorem msg80 : ∀ {p : Program} {loose : List Str} {mean : ExcName → Option Value} {mg mb : Str → Option Value} (w : World) (s : Shared) (e d ta : Addr) (od : Obj) (msg : Str) (u : Tok)
    (Q E : Value → Shared → Prop) (KX : (hx.heap_39 w.params).In s.heap) (T : Top p loose mean mg mb s.heap) (he : s.heap.get? e = some (excObj 80 (some d) ta)) (hd : s.heap.get? d = some od) (hm : lookIn "message" od = some (some (.str msg u)))
    (hQ : ∀ h' tk, Grow s.heap h' → Q (.str msg u) { s with heap := h', toks := tk }),
    wpAny (model PySem.Challenge.rw_dm0028_05.prog w) (AD 610 2100) (call (.ref 36) [.ref e]) Q E s := by
  w_top off
  k_fill
  intro p loose mean mg mb w s e d ta od msg u Q E KX T he hd hm hQ
  obtain ⟨hh, g, dr, tk, os⟩ := s
  dsimp only at KX T he hd hQ
  w_strict (
  refine wpAny_call ?_
  k_dflt (refine' enter_new (h₀ := hh) (binds := [("self", .ref e)]) (news := []) ?k1 ?k2 KX T.nolimit ?k9 ?k5 ?k6 ?k7 ?k8 ?kB ?c2 ?c3 ?c4 ?c5 ?_; (case k5 => k_is); (case k6 => k_is); (case k7 => exact Nat.le_of_ble_eq_true rfl); (case k8 => first | exact BindsTo.of_eq rfl | exact binds_K KX rfl (by k_is) rfl rfl rfl); (case c5 => decide); (case kB => exact locs rfl); (case c2 => exact rfl); (case c3 => exact rfl); (case c4 => exact rfl); (case k1 => exact fun _ _ e => e); (case k2 => exact Nat.le_refl _); (case k9 => exact List.forall_mem_nil _))
  intro L' h' tk' F' N' l1
  k_steps
  dsimp only
  exact hQ _ _ F'.keep)
end Mine
end
section
open PySem PySem.W PySem.W.X PySem.Calls PyProof.Rows
set_option Elab.async false
set_option maxRecDepth 100000
set_option maxHeartbeats 8000000
set_option linter.unusedVariables false
namespace Mine
local macro_rules | `(tactic| walk_at "mine drop") => `(tactic| first | (refine' Drop.head ?a; (case a => k_all)) | (refine' Drop.tail ?a ?b; (case a => k_ne); (case b => walk_at "mine drop")))
local macro_rules | `(tactic| walk_at "setAttr ref") => `(tactic| (k_here; k_dflt (first
  | (refine' exc_set0 (news' := ?nw) ?k1 ?k2 ?k3 ?k4 ?k5 ?k6 ?k7 ?k8 ?k9 ?_; (case k1 => k_asm); (case k2 => k_asm); (case k3 => k_asm); (case k4 => k_mem); (case k5 => k_is); (case k6 => kernel_rfl); (case k7 => k_is); (case k8 => k_is); (case k9 => intro d; k_upd); k_whole; intro d' h' F' N' l1; (try k_lt l1))
  | (refine' exc_set_args ?k1 ?k2 ?k3 ?k4 ?k5 ?k6 ?k7 ?k8 ?k9 ?k10 ?_; (case k1 => k_asm); (case k2 => k_asm); (case k3 => k_asm); (case k4 => first | (refine' InstAt.of_exc ?N ?h1 ?h2; (case N => k_asm); (case h1 => k_mem); (case h2 => k_mem)) | (refine' InstAt.of_exc0 ?N ?h1; (case N => k_asm); (case h1 => k_mem))); (case k5 => exact isTup_of (by k_asm) (by k_mem)); (case k6 => k_is); (case k7 => kernel_rfl); (case k8 => k_is); (case k9 => k_is); (case k10 => k_upd); k_whole; intro h' F' N')
  | (refine' exc_set ?k1 ?k2 ?k3 ?k4 ?k5 ?k6 ?k7 ?k8 ?k9 ?k10 ?k11 ?k12 ?_; (case k1 => k_asm); (case k2 => k_asm); (case k3 => k_asm); (case k4 => first | (refine' InstAt.of_exc ?N ?h1 ?h2; (case N => k_asm); (case h1 => k_mem); (case h2 => k_mem)) | (refine' InstAt.of_exc0 ?N ?h1; (case N => k_asm); (case h1 => k_mem))); (case k5 => k_is); (case k6 => kernel_rfl); (case k7 => k_is); (case k8 => k_is); (case k9 => k_get); (case k10 => k_put); (case k11 => k_upd); (case k12 => exact Nat.le_of_ble_eq_true rfl); k_whole; intro h' F' N'))))
local macro_rules | `(tactic| walk_at "call builtin:Exception.__init__") => `(tactic| (k_here; k_dflt (refine' exc_init_call (news'' := ?nw) ?k1 ?k2 ?k3 ?k4 ?k5 ?k6 ?_; (case k1 => k_asm); (case k2 => k_asm); (case k3 => k_asm); (case k4 => first | (refine' InstAt.of_exc ?N ?h1 ?h2; (case N => k_asm); (case h1 => k_mem); (case h2 => k_mem)) | (refine' InstAt.of_exc0 ?N ?h1; (case N => k_asm); (case h1 => k_mem))); (case k5 => k_is); (case k6 => intro t; k_upd); k_whole; intro t' h' F' N' l1; (try k_lt l1))))
local macro_rules | `(tactic| walk_at "call builtin:repr") => `(tactic| (k_here; k_dflt (refine' repr_use ?k1 ?k2 ?k3 ?k4 ?k5 ?k6 ?k7 ?_; (case k1 => assumption); (case k2 => k_asm); (case k3 => k_asm); (case k4 => exact rfl); (case k5 => exact rfl); (case k6 => exact Nat.le_of_ble_eq_true rfl); (case k7 => exact Nat.le_of_ble_eq_true rfl); k_whole; intro h' u' tk' F' N')))
local macro_rules | `(tactic| walk_at "BackIn") => `(tactic| (k_dflt (refine' back_ ?k1 ?k2 ?k3 ?_; (case k1 => k_asm); (case k2 => k_asm); (case k3 => walk_at "mine drop"); k_whole; intro F' N'; (try dsimp only))))
local macro_rules | `(tactic| walk_at "call ref") => `(tactic| (k_here; k_dflt (refine wpAny_call ?_; refine' enter_in ?k1 ?k2 ?k3 ?k4 ?k5 ?k6 ?k7 ?k8 ?kB ?c2 ?c3 ?c4 ?c5 ?_; (case k1 => k_asm); (case k2 => k_asm); (case k3 => k_asm); (case k4 => exact Top.nolimit (by assumption)); (case k5 => k_is); (case k6 => k_is); (case k7 => exact Nat.le_of_ble_eq_true rfl); (case k8 => first | ((with_reducible show BindsTo _ _ ⟨[_], []⟩ _); first | exact BindsTo.of_eq (binds := [(_, _)]) rfl | exact binds_K (binds := [(_, _)]) (by k_in) rfl (by k_is) rfl rfl rfl) | ((with_reducible show BindsTo _ _ ⟨[_, _], []⟩ _); first | exact BindsTo.of_eq (binds := [(_, _), (_, _)]) rfl | exact binds_K (binds := [(_, _), (_, _)]) (by k_in) rfl (by k_is) rfl rfl rfl) | ((with_reducible show BindsTo _ _ ⟨[_, _, _], []⟩ _); first | exact BindsTo.of_eq (binds := [(_, _), (_, _), (_, _)]) rfl | exact binds_K (binds := [(_, _), (_, _), (_, _)]) (by k_in) rfl (by k_is) rfl rfl rfl) | ((with_reducible show BindsTo _ _ ⟨[_, _, _, _], []⟩ _); first | exact BindsTo.of_eq (binds := [(_, _), (_, _), (_, _), (_, _)]) rfl | exact binds_K (binds := [(_, _), (_, _), (_, _), (_, _)]) (by k_in) rfl (by k_is) rfl rfl rfl) | ((with_reducible show BindsTo _ _ ⟨[_, _, _, _, _], []⟩ _); first | exact BindsTo.of_eq (binds := [(_, _), (_, _), (_, _), (_, _), (_, _)]) rfl | exact binds_K (binds := [(_, _), (_, _), (_, _), (_, _), (_, _)]) (by k_in) rfl (by k_is) rfl rfl rfl)); (case c5 => decide); (case kB => exact locs rfl); (case c2 => exact rfl); (case c3 => exact rfl); (case c4 => exact rfl); k_whole; intro oL' L' h' tk' F' N' l1 n1; (try k_lt l1); (try (replace n1 := allNe_of n1; simp only [AllNe, and_true] at n1)); (try dsimp only))))
local macro_rules | `(tactic| walk_at "call builtin:str.join") => `(tactic| (k_here; (with_reducible show wpAny _ _ (call (Value.builtin "str.join") [Value.str _ _, Value.ref _]) _ _ _); k_dflt (refine join_listC (by is_list) (by repeat constructor) (by decide) (by (simp only [List.map_cons, List.map_nil, List.sum_cons, List.sum_nil, List.length_cons, List.length_nil]; omega)) ?_); intro t' k'))
local macro_rules | `(tactic| walk_at "getMethod type:Exception") => `(tactic| (k_here; refine' method_type ?F ?X ?m (by decide +kernel) ?e ?h ?_; (case F => k_asm); (case X => k_asm); (case m => exact meta_Exception); (case e => k_dflt k_is); (case h => k_handed)))
local macro_rules | `(tactic| walk_at "compareOp IsNot") => `(tactic| (k_here; k_dflt (refine isNot_none (by assumption) ?_)))
local macro_rules | `(tactic| walk_at "call builtin:str.format") => `(tactic| (k_here; k_dflt (refine' line_use ?k1 ?k2 ?k3 ?k4 ?k5 ?k6 ?k7 ?_; (case k1 => assumption); (case k2 => k_asm); (case k3 => k_asm); (case k4 => exact rfl); (case k5 => exact rfl); (case k6 => exact Nat.le_of_ble_eq_true rfl); (case k7 => exact Nat.le_of_ble_eq_true rfl); k_whole; intro h' u' tk' F' N')))
def stored05 : List Str := [Str.ofString "x", Str.ofString "rest", Str.ofString "figure", Str.ofString "section", Str.ofString "option", Str.ofString "source", Str.ofString "least", Str.ofString "told", Str.ofString "number", Str.ofString "place", Str.ofString "tail", Str.ofString "err"]
section
variable {prog : Program} {w : World} {A : Around} {E : Value → Shared → Prop} {s : Shared} {env : Env} {h₀ : Heap} {x : Str} {body : List Stmt} {Q : Flow → Shared → Prop}
theorem loop05 {l : Addr} {vs : List Value} {ns : List Int} {m₀ : Str → Option Value} {news : List (Addr × Obj)} {t1 t2 : Tok} (stored : List Str)
    (hh : A.handled = none) (hi : IntsAre vs ns) (F : Fr h₀ env.locals s.heap m₀) (N : News h₀ env.locals s.heap ((l, listOf vs.toArray 0) :: news)) (h1 : m₀ (Str.ofString "line") = some (.int 0 t1)) (h2 : m₀ (Str.ofString "figures") = some (.str (Str.ofString "") t2))
    (turn : ∀ (line : Int) (figures : Str) (t1 t2 : Tok) pre post n t (u : Str → Option Value) h tk own, ns = pre ++ n :: post → n ∈ ns → Inv05 pre line figures →
      Fr h₀ env.locals h (fun y => if y = x then some (.int n t) else if y = Str.ofString "line" then some (.int line t1) else if y = Str.ofString "figures" then some (.str figures t2) else if stored.contains y then u y else m₀ y) → News h₀ env.locals h (((l, listOf vs.toArray 0) :: news) ++ own) →
      wpAny (model prog w) A (execs body env) (InvPostN h₀ env.locals (KstS (σ := Int × Str × Tok × Tok) (fun _ => (l, listOf vs.toArray 0) :: news) (fun c => [(Str.ofString "line", .int c.1 c.2.2.1), (Str.ofString "figures", .str c.2.1 c.2.2.2)]) (fun _ => True) x stored m₀ (fun pre c => Inv05 pre c.1 c.2.1) (pre ++ [n])) own (((l, listOf vs.toArray 0) :: news).map (·.1)) { s with heap := h, toks := tk } Q) E { s with heap := h, toks := tk })
    (done : ∀ (m : Str → Option Value) h tk, Fr h₀ env.locals h m → Q .next { s with heap := h, toks := tk }) :
    wpAny (model prog w) A (pyIter (.ref l)) (fun it s₂ => LoopAtV prog w A h₀ env x body Q E it s₂) E s :=
  kst_listL (nn := 0) (σ := Int × Str × Tok × Tok) (fun _ => (l, listOf vs.toArray 0) :: news) (fun c => [(Str.ofString "line", .int c.1 c.2.2.1), (Str.ofString "figures", .str c.2.1 c.2.2.2)]) (fun _ => True) stored (fun pre c => Inv05 pre c.1 c.2.1) (0, Str.ofString "", t1, t2) hh (fun _ => List.Mem.head _) hi F N trivial
    (List.forall_mem_cons.mpr ⟨h1, List.forall_mem_cons.mpr ⟨h2, List.forall_mem_nil _⟩⟩) inv05_0 (fun c pre post n t u h tk own e1 e2 _ _ i f nw => turn c.1 c.2.1 c.2.2.1 c.2.2.2 pre post n t u h tk own e1 e2 i f nw) (fun c u h tk _ _ f _ => done _ h tk f)
theorem turn_end {l : Addr} {vs : List Value} {m₀ m' : Str → Option Value} {news news' own : List (Addr × Obj)} {line : Int} {figures : Str} {t1 t2 : Tok} {stored : List Str} {L : Addr} {pre : List Int} {h' : Heap} {tk : Nat} (F : Fr h₀ L h' m') (N : News h₀ L h' news') (hsub : ∀ p ∈ ((l, listOf vs.toArray 0) :: news) ++ own, p ∈ news')
    (h1 : m' (Str.ofString "line") = some (.int line t1)) (h2 : m' (Str.ofString "figures") = some (.str figures t2)) (hm : ∀ z, z ≠ x → z ≠ Str.ofString "line" → z ≠ Str.ofString "figures" → stored.contains z = false → m' z = m₀ z) (hI : Inv05 pre line figures) :
    InvPostN h₀ L (KstS (σ := Int × Str × Tok × Tok) (fun _ => (l, listOf vs.toArray 0) :: news) (fun c => [(Str.ofString "line", .int c.1 c.2.2.1), (Str.ofString "figures", .str c.2.1 c.2.2.2)]) (fun _ => True) x stored m₀ (fun pre c => Inv05 pre c.1 c.2.1) pre) own (((l, listOf vs.toArray 0) :: news).map (·.1)) s Q .next { s with heap := h', toks := tk } :=
  ⟨h', tk, m', news', _, rfl, F, N, fun p hp => hsub p (List.mem_append_left _ hp), fun p hp => hsub p (List.mem_append_right _ hp), rfl, (line, figures, t1, t2), rfl, trivial, List.forall_mem_cons.mpr ⟨h1, List.forall_mem_cons.mpr ⟨h2, List.forall_mem_nil _⟩⟩, fun z hz hp hs => hm z hz (hp _ (.head _)) (hp _ (.tail _ (.head _))) hs, hI⟩
end
def Stop (P : Prop) : Prop := P
theorem stop_ {P : Prop} (h : Stop P) : P := h

def junk05 : List Str := [Str.ofString "told", Str.ofString "number", Str.ofString "place", Str.ofString "tail", Str.ofString "err"]
def Go05 : Prop := True
theorem quot_reprs {prog : Program} {w : World} {hb : Heap} {x : Str} {t : Tok} (q : Quot x) : Reprs prog w hb (.str x t) (reprText x) := reprs_str (Nat.le_trans q.2.2.1 (by decide))
def LineOk (n : Int) : Prop := n.natAbs.log2 < 1920 ∧ (fig2 n).length ≤ 900
theorem lines_ok {prog : Program} {w : World} {n : Int} (h : LineOk n) : Lines prog w n (lineText n) := lines_of h.1 h.2
theorem lineOk {pre : List Int} {line : Int} {fig : Str} {n : Int} (hp : pre.length ≤ 40) (hI : Inv05 (pre ++ [n]) line fig) : LineOk line := ⟨log2_ok (abs05 hp hI), Nat.le_trans (fig2_len (abs05 hp hI)) (by decide)⟩
theorem lineOkN {pre : List Int} {line : Int} {fig : Str} {n : Int} (hp : pre.length ≤ 40) (hI : Inv05 (pre ++ [n]) line fig) : LineOk (-line) := ⟨log2_ok (by rw [Int.natAbs_neg]; exact abs05 hp hI), Nat.le_trans (fig2_len (by rw [Int.natAbs_neg]; exact abs05 hp hI)) (by decide)⟩
local macro_rules | `(tactic| walk_at "exec For Name BinOp cons nil") => `(tactic| (k_here; (rename Fr _ _ _ _ => lF'); (with_unfolding_all refine' For_invVF lF' ?k1 ?k2 ?_; (case k1 => exact rfl); (case k2 => exact rfl); k_whole)))
local macro_rules | `(tactic| walk_at "pyIter ref") => `(tactic| ((fail_if_success (with_reducible rename Go05 => hgo)); (with_reducible refine stop_ ?_)))
local macro_rules | `(tactic| walk_at "exec If") => `(tactic| ((with_reducible show wpAny _ _ (exec (Stmt.If (Expr.Compare (Expr.Name _ _) _ _ _) _ _ _) _) _ _ _); (fail_if_success (goal_has Mine.Joined)); (with_reducible refine stop_ ?_)))
local macro_rules | `(tactic| walk_at "eval IfExp") => `(tactic| ((fail_if_success (goal_has Mine.JoinedV)); (with_reducible refine stop_ ?_)))
local macro_rules | `(tactic| walk_at "eval Subscript") => `(tactic| ((with_reducible show wpAny _ _ (eval (Expr.Subscript (Expr.List _ _) _ _) _) _ _ _); (fail_if_success (goal_has Mine.JoinedV)); (with_reducible refine stop_ ?_)))
local macro_rules | `(tactic| walk_at "subscriptTail") => `(tactic| ((with_reducible show wpAny _ _ (subscriptTail (Expr.List _ _) _ (Value.ref _) (Value.int _ _)) _ _ _); k_dflt (refine' item_tmp ?k1 ?k2 ?k3 ?k4 ?_; (case k1 => is_list); (case k2 => exact Int.fmod_nonneg_of_pos _ (by decide)); (case k3 => exact Int.fmod_lt_of_pos _ (by decide)); (case k4 => exact Nat.le_of_ble_eq_true rfl)); (with_reducible refine stop_ ?_)))
local macro_rules | `(tactic| walk_at "call ref") => `(tactic| (k_here; (with_reducible show wpAny _ _ (call (Value.ref 89) [Value.str _ _]) _ _ _); k_dflt (refine' text_use (fun Q E hQ => quot05 _ _ _ _ (by assumption) Q E (by k_in) (Top.keeps (by assumption) (Fr.keep (by k_asm))) hQ) ?k1 ?k2 ?k3 ?k4 ?k5 ?k6 ?_; (case k1 => k_asm); (case k2 => k_asm); (case k3 => exact rfl); (case k4 => exact rfl); (case k5 => exact Nat.le_of_ble_eq_true rfl); (case k6 => exact Nat.le_of_ble_eq_true rfl); k_whole; intro h' tk' u' F' N')))
local macro_rules | `(tactic| walk_at "call ref") => `(tactic| (k_here; (with_reducible show wpAny _ _ (call (Value.ref 60) [Value.str _ _, Value.none, Value.int _ _]) _ _ _); k_dflt (refine' err_use (fun Q E hQ => con60a _ _ _ _ _ (quot_reprs (by assumption)) Q E (by k_in) (Top.keeps (by assumption) (Fr.keep (by k_asm))) hQ) ?k1 ?k2 ?k3 ?k4 ?k5 ?k6 ?_; (case k1 => k_asm); (case k2 => k_asm); (case k3 => exact rfl); (case k4 => exact rfl); (case k5 => exact Nat.le_of_ble_eq_true rfl); (case k6 => exact Nat.le_of_ble_eq_true rfl); k_whole; intro h' tk' e' d' ta' od' u' F' N' n1 n2 n3 hm hf; (try simp only [AllNe, and_true] at n1 n2 n3); (rw [tx60a] at hm); (have hl1 := hf _ (.head _)); (have hl2 := hf _ (.tail _ (.head _))); (have hl3 := hf _ (.tail _ (.tail _ (.head _)))); (dsimp only at hl1 hl2 hl3); clear hf)))
local macro_rules | `(tactic| walk_at "call ref") => `(tactic| (k_here; (with_reducible show wpAny _ _ (call (Value.ref 60) [Value.str _ _, Value.str _ _, Value.int _ _]) _ _ _); k_dflt (refine' err_use (fun Q E hQ => con60b _ _ _ _ _ _ (by intro h; cases h) _ (quot_reprs (by assumption)) _ (quot_reprs (by assumption)) _ (lines_ok (by assumption)) Q E (by k_in) (Top.keeps (by assumption) (Fr.keep (by k_asm))) hQ) ?k1 ?k2 ?k3 ?k4 ?k5 ?k6 ?_; (case k1 => k_asm); (case k2 => k_asm); (case k3 => exact rfl); (case k4 => exact rfl); (case k5 => exact Nat.le_of_ble_eq_true rfl); (case k6 => exact Nat.le_of_ble_eq_true rfl); k_whole; intro h' tk' e' d' ta' od' u' F' N' n1 n2 n3 hm hf; (try simp only [AllNe, and_true] at n1 n2 n3); (rw [tx60b] at hm); (have hl1 := hf _ (.head _)); (have hl2 := hf _ (.tail _ (.head _))); (have hl3 := hf _ (.tail _ (.tail _ (.head _)))); (dsimp only at hl1 hl2 hl3); clear hf)))
local macro_rules | `(tactic| walk_at "call ref") => `(tactic| (k_here; (with_reducible show wpAny _ _ (call (Value.ref 80) [Value.str _ _, Value.str _ _, Value.none, Value.int _ _]) _ _ _); k_dflt (refine' err_use (fun Q E hQ => con80a _ _ _ _ _ _ (quot_reprs (by assumption)) _ (quot_reprs (by assumption)) Q E (by k_in) (Top.keeps (by assumption) (Fr.keep (by k_asm))) hQ) ?k1 ?k2 ?k3 ?k4 ?k5 ?k6 ?_; (case k1 => k_asm); (case k2 => k_asm); (case k3 => exact rfl); (case k4 => exact rfl); (case k5 => exact Nat.le_of_ble_eq_true rfl); (case k6 => exact Nat.le_of_ble_eq_true rfl); k_whole; intro h' tk' e' d' ta' od' u' F' N' n1 n2 n3 hm hf; (try simp only [AllNe, and_true] at n1 n2 n3); (rw [tx80a] at hm); (have hl1 := hf _ (.head _)); (have hl2 := hf _ (.tail _ (.head _))); (have hl3 := hf _ (.tail _ (.tail _ (.head _)))); (have hl4 := hf _ (.tail _ (.tail _ (.tail _ (.head _))))); (dsimp only at hl1 hl2 hl3 hl4); clear hf)))
local macro_rules | `(tactic| walk_at "call ref") => `(tactic| (k_here; (with_reducible show wpAny _ _ (call (Value.ref 80) [Value.str _ _, Value.str _ _, Value.str _ _, Value.int _ _]) _ _ _); k_dflt (refine' err_use (fun Q E hQ => con80b _ _ _ _ _ _ _ (by intro h; cases h) _ (quot_reprs (by assumption)) _ (quot_reprs (by assumption)) _ (quot_reprs (by assumption)) _ (lines_ok (by assumption)) Q E (by k_in) (Top.keeps (by assumption) (Fr.keep (by k_asm))) hQ) ?k1 ?k2 ?k3 ?k4 ?k5 ?k6 ?_; (case k1 => k_asm); (case k2 => k_asm); (case k3 => exact rfl); (case k4 => exact rfl); (case k5 => exact Nat.le_of_ble_eq_true rfl); (case k6 => exact Nat.le_of_ble_eq_true rfl); k_whole; intro h' tk' e' d' ta' od' u' F' N' n1 n2 n3 hm hf; (try simp only [AllNe, and_true] at n1 n2 n3); (rw [tx80b] at hm); (have hl1 := hf _ (.head _)); (have hl2 := hf _ (.tail _ (.head _))); (have hl3 := hf _ (.tail _ (.tail _ (.head _)))); (have hl4 := hf _ (.tail _ (.tail _ (.tail _ (.head _))))); (dsimp only at hl1 hl2 hl3 hl4); clear hf)))
local macro_rules | `(tactic| walk_at "call type:str") => `(tactic| (k_here; (with_reducible show wpAny _ _ (call (Value.type "str") [Value.ref _]) _ _ _); k_dflt (refine' err_str (C := 60) (f := 36) ?k1 ?k2 ?k3 ?k4 ?k5 ?k6 (fun Q E a b c X hQ => msg60 _ _ _ _ _ _ _ _ Q E X (Top.keeps (by assumption) (Fr.keep (by k_asm))) a b c hQ) ?k7 ?k8 ?k9 ?ka ?kb ?kc ?kd ?_; (case k1 => k_asm); (case k2 => k_asm); (case k3 => k_asm); (case k4 => k_mem); (case k5 => k_mem); (case k6 => assumption); (case k7 => k_is); (case k8 => k_is); (case k9 => exact Nat.le_of_ble_eq_true rfl); (case ka => exact rfl); (case kb => exact rfl); (case kc => exact Nat.le_of_ble_eq_true rfl); (case kd => exact Nat.le_of_ble_eq_true rfl); k_whole; intro h' tk' F' N')))
local macro_rules | `(tactic| walk_at "call type:str") => `(tactic| (k_here; (with_reducible show wpAny _ _ (call (Value.type "str") [Value.ref _]) _ _ _); k_dflt (refine' err_str (C := 80) (f := 36) ?k1 ?k2 ?k3 ?k4 ?k5 ?k6 (fun Q E a b c X hQ => msg80 _ _ _ _ _ _ _ _ Q E X (Top.keeps (by assumption) (Fr.keep (by k_asm))) a b c hQ) ?k7 ?k8 ?k9 ?ka ?kb ?kc ?kd ?_; (case k1 => k_asm); (case k2 => k_asm); (case k3 => k_asm); (case k4 => k_mem); (case k5 => k_mem); (case k6 => assumption); (case k7 => k_is); (case k8 => k_is); (case k9 => exact Nat.le_of_ble_eq_true rfl); (case ka => exact rfl); (case kb => exact rfl); (case kc => exact Nat.le_of_ble_eq_true rfl); (case kd => exact Nat.le_of_ble_eq_true rfl); k_whole; intro h' tk' F' N')))
local macro_rules | `(tactic| walk_at "getAttr ref") => `(tactic| (k_here; k_dflt (first
  | ((with_reducible show wpAny _ _ (getAttr _ (PySem.Str.ofString "args") _) _ _ _); refine' err_args ?k1 ?k2 ?k3 ?k4 ?k5 ?k6 ?k7 ?k8 ?k9 ?ka ?_; (case k1 => k_asm); (case k2 => k_asm); (case k3 => k_asm); (case k4 => k_mem); (case k5 => k_mem); (case k6 => kernel_rfl); (case k7 => kernel_rfl); (case k8 => first | k_is | kernel_rfl); (case k9 => first | k_is | kernel_rfl); (case ka => first | k_is | kernel_rfl))
  | (refine' err_get ?k1 ?k2 ?k3 ?k4 ?k5 ?k6 ?k7 ?k8 ?k9 ?ka ?kb ?_; (case k1 => k_asm); (case k2 => k_asm); (case k3 => k_asm); (case k4 => k_mem); (case k5 => k_mem); (case ka => assumption); (case k6 => kernel_rfl); (case k7 => k_is); (case k8 => k_is); (case k9 => k_is); (case kb => exact rfl)))))
local macro_rules | `(tactic| walk_at "mine shaped") => `(tactic| (simp only [SeqAt.shaped, PyData.canLay0, PyData.canLayAll0, PyData.depth, PyData.depthAll, strOk_app, strOk_fig, Bool.and_eq_true]; (repeat' apply And.intro) <;> first | assumption | exact rfl | decide +kernel))
local macro_rules | `(tactic| walk_at "mine reads") => `(tactic| first | exact ReadsAll.nil | (refine' ReadsAll.cons ?ra ?rb; (case ra => walk_at "mine read"); (case rb => walk_at "mine reads")))
local macro_rules | `(tactic| walk_at "mine read") => `(tactic| first | exact Reads.int _ _ | exact Reads.str _ _ | (refine' reads_tup (vs := [_, _, _]) ?rN ?rm ?rr; (case rN => k_asm); (case rm => k_mem); (case rr => walk_at "mine reads")) | (refine' reads_tup (vs := [_, _, _, _]) ?rN ?rm ?rr; (case rN => k_asm); (case rm => k_mem); (case rr => walk_at "mine reads")))
local macro_rules | `(tactic| walk_at "compareOp NotEq ref ref") => `(tactic| (k_here; k_dflt (first | (refine' ne_alike (xs := [_, _]) (ys := [_, _]) ?N ?h1 ?h2 ?r1 ?r2 ?hs ?hu ?he ?_; (case N => k_asm); (case h1 => k_mem); (case h2 => k_mem); (case r1 => walk_at "mine reads"); (case r2 => walk_at "mine reads"); (case hs => walk_at "mine shaped"); (case hu => ke_room); (case he => simp [PyData.eqvAll, PyData.eqv])) | (refine' ne_alike (xs := [_, _, _]) (ys := [_, _, _]) ?N ?h1 ?h2 ?r1 ?r2 ?hs ?hu ?he ?_; (case N => k_asm); (case h1 => k_mem); (case h2 => k_mem); (case r1 => walk_at "mine reads"); (case r2 => walk_at "mine reads"); (case hs => walk_at "mine shaped"); (case hu => ke_room); (case he => simp [PyData.eqvAll, PyData.eqv])) | (with_reducible refine stop_ ?_))))
theorem foo : PySem.Challenge.rw_dm0028_05.Holds := by
  w_top off
  refine hx (by
    w_strict (
    k_go0
    (all_goals try k_fold)
    k_steps
    unfold Stop
    with_reducible rename IntsAre _ _ => hI
    with_reducible rename Fr _ _ _ _ => lF
    with_reducible rename News _ _ _ _ => lN
    refine loop05 stored05 rfl hI lF lN ((if_neg (show ¬ (Str.ofString "line" = Str.ofString "figures") by decide)).trans (if_pos rfl)) (if_pos rfl) ?zturn ?zdone
    case zdone =>
      intro m' hh tkk FF
      clear lF lN
      k_steps
    case zturn =>
      intro line figures t1 t2 pre post n t u hh tkk own eN nN hInv FF NN
      clear lF lN
      k_steps
      unfold Stop
      with_reducible rename Fr _ _ _ _ => F1
      with_reducible rename News _ _ _ _ => N1
      refine join_ (Str.ofString "figures") (fun v => ∃ fig tt, v = .str fig tt ∧ (line = 0 → fig = Str.ofString "") ∧ (line ≠ 0 → fig = figures)) F1 N1 ?ja ?jb
      case ja =>
        k_steps
        · (with_reducible rename Fr _ _ _ _ => F2)
          (with_reducible rename News _ _ _ _ => N2)
          exact joined_set ⟨_, _, rfl, fun _ => rfl, fun h => absurd (by assumption) h⟩ F2 N2
        · exact joined_kept ⟨_, _, rfl, fun h => absurd h (by assumption), fun _ => rfl⟩ rfl F1 N1
      clear F1 N1
      rintro h1 tk1 v1 ⟨fig, tf, rfl, hf1, hf2⟩ F1 N1
      have hpre : pre.length ≤ 40 := by
        have := congrArg List.length eN
        simp at this
        omega
      have hfl : fig.length ≤ 40 := by
        by_cases h : line = 0
        · rw [hf1 h]; decide
        · rw [hf2 h]; exact Nat.le_trans hInv.2.1 hpre
      have hil : (Txt.item (Str.ofString "0123456789") ((if n < 0 then -n else n).fmod 10)).length ≤ 10 := by
        have d0 := Int.fmod_nonneg_of_pos (if n < 0 then -n else n) (b := 10) (by decide)
        have d1 := Int.fmod_lt_of_pos (if n < 0 then -n else n) (b := 10) (by decide)
        generalize (if n < 0 then -n else n).fmod 10 = d at *
        obtain ⟨d, rfl⟩ := Int.eq_ofNat_of_zero_le d0
        rw [item_fig ⟨d, by omega⟩]
        exact (by decide : 1 ≤ 10)
      dsimp only
      k_steps
      unfold Stop
      with_reducible rename Fr _ _ _ _ => F2
      with_reducible rename News _ _ _ _ => N2
      refine joinV_ (fun v => ∃ x tt, v = .str x tt ∧ Quot x) F2 N2 ?sa0 ?sb0
      case sa0 =>
        k_steps
        unfold Stop
        (with_reducible rename Fr _ _ _ _ => F3)
        (with_reducible rename News _ _ _ _ => N3)
        intro x hx
        simp only [List.mem_cons, List.not_mem_nil, or_false] at hx
        refine joinedV_ ?_ F3 N3 (fun q hq => List.mem_cons_of_mem _ hq)
        rcases hx with rfl | rfl <;> exact ⟨_, _, rfl, quots05 _ (by decide +kernel)⟩
      clear F2 N2
      rintro v3 hh3 tk3 ⟨x3, tt3, rfl, qx3⟩ F2 N2
      dsimp only
      k_steps
      unfold Stop
      with_reducible rename Fr _ _ _ _ => F2
      with_reducible rename News _ _ _ _ => N2
      refine joinV_ (fun v => ∃ x tt, v = .str x tt ∧ Quot x) F2 N2 ?sa1 ?sb1
      case sa1 =>
        k_steps
        unfold Stop
        (with_reducible rename Fr _ _ _ _ => F3)
        (with_reducible rename News _ _ _ _ => N3)
        intro x hx
        simp only [List.mem_cons, List.not_mem_nil, or_false] at hx
        refine joinedV_ ?_ F3 N3 (fun q hq => List.mem_cons_of_mem _ hq)
        rcases hx with rfl | rfl <;> exact ⟨_, _, rfl, quots05 _ (by decide +kernel)⟩
      clear F2 N2
      rintro v4 hh4 tk4 ⟨x4, tt4, rfl, qx4⟩ F2 N2
      dsimp only
      k_steps
      unfold Stop
      with_reducible rename Fr _ _ _ _ => F2
      with_reducible rename News _ _ _ _ => N2
      refine joinV_ (fun v => ∃ x tt, v = .str x tt ∧ Quot x) F2 N2 ?sa2 ?sb2
      case sa2 =>
        k_steps
        unfold Stop
        (with_reducible rename Fr _ _ _ _ => F3)
        (with_reducible rename News _ _ _ _ => N3)
        intro x hx
        simp only [List.mem_cons, List.not_mem_nil, or_false] at hx
        refine joinedV_ ?_ F3 N3 (fun q hq => List.mem_cons_of_mem _ hq)
        rcases hx with rfl | rfl | rfl <;> exact ⟨_, _, rfl, quots05 _ (by decide +kernel)⟩
      clear F2 N2
      rintro v5 hh5 tk5 ⟨x5, tt5, rfl, qx5⟩ F2 N2
      dsimp only
      k_steps
      have hs5 := step05 (n := n) hInv hf1 hf2
      have hl5 : (fig ++ Txt.item (Str.ofString "0123456789") ((if n < 0 then -n else n).fmod 10)).length ≤ 41 := Nat.le_trans hs5.2.1 (by simp; omega)
      unfold Stop
      with_reducible rename Fr _ _ _ _ => F2
      with_reducible rename News _ _ _ _ => N2
      refine joinV_ (fun v => ∃ x tt, v = .str x tt ∧ x = fig2 (-(line * 10 + (if n < 0 then -n else n).fmod 10)) ∧ x.length ≤ 100) F2 N2 ?ia ?ib
      case ia =>
        k_steps
        · exact joinedV_ ⟨_, _, rfl, neg05 hs5 (by assumption), by rw [neg05 hs5 (by assumption)]; exact Nat.le_trans (fig2_len (by rw [Int.natAbs_neg]; exact abs05 hpre hs5)) (by decide)⟩ F2 N2 (fun _ h => h)
        · have h0 : line * 10 + (if n < 0 then -n else n).fmod 10 = 0 := Int.le_antisymm (Int.not_lt.mp (by assumption)) hs5.1
          exact joinedV_ ⟨_, _, rfl, by rw [h0]; exact zero05, by decide⟩ F2 N2 (fun _ h => h)
      clear F2 N2
      rintro v6 hh6 tk6 ⟨x6, tt6, rfl, qx6, ql6⟩ F2 N2
      subst qx6
      dsimp only
      k_steps
      unfold Stop
      with_reducible rename Fr _ _ _ _ => F4
      with_reducible rename News _ _ _ _ => N4
      rw [told05 hs5] at N4
      have hgo : Go05 := trivial
      have hk1 : LineOk (line * 10 + (if n < 0 then -n else n).fmod 10) := lineOk hpre hs5
      have hk2 : LineOk (-(line * 10 + (if n < 0 then -n else n).fmod 10)) := lineOkN hpre hs5
      have ql7 : (fig2 (line * 10 + (if n < 0 then -n else n).fmod 10)).length ≤ 100 := Nat.le_trans (fig2_len (abs05 hpre hs5)) (by decide)
      have q3 := qx3.2.2.1
      have q4 := qx4.2.2.1
      have q5 := qx5.2.2.1
      have hso3 := qx3.2.2.2.2.2
      have hso4 := qx4.2.2.2.2.2
      have hso5 := qx5.2.2.2.2.2
      have hsp3 := qx3.2.2.2.2.1
      have hsp4 := qx4.2.2.2.2.1
      have hsp5 := qx5.2.2.2.2.1
      refine turns_keep junk05 rfl (by k_mem) F4 N4 ?wt ?wd
      case wd =>
        intro m5 h5 tk5 hJ5 F5 N5
        clear F4 N4
        dsimp only
        refine wpAny_execs_nil ?_
        refine' turn_end F5 N5 ?wa ?wb ?wc ?we hs5
        case wa =>
          intro p hp
          repeat (first | exact hp | apply List.mem_cons_of_mem)
        case wb => exact (hJ5 (Str.ofString "line") (by decide)).trans (by with_unfolding_all rfl)
        case wc => exact (hJ5 (Str.ofString "figures") (by decide)).trans (by with_unfolding_all rfl)
        case we =>
          intro z zx zl zf zs
          have hns : z ∉ stored05 := by
            intro h
            rw [List.contains_iff_mem.mpr h] at zs
            cases zs
          simp only [stored05, List.mem_cons, List.not_mem_nil, or_false, not_or] at hns
          obtain ⟨y1, y2, y3, y4, y5, y6, y7, y8, y9, y10, y11, y12⟩ := hns
          refine (hJ5 z (by simp only [junk05, List.mem_cons, List.not_mem_nil, or_false, not_or]; exact ⟨y8, y9, y10, y11, y12⟩)).trans ?_
          simp only [if_neg zl, if_neg zf, if_neg y1, if_neg y2, if_neg y3, if_neg y4, if_neg y5, if_neg y6, if_neg y7, zs]
          rfl
      case wt =>
        intro v7 m7 h7 tk7 led hv7 hJ7 hs7 F7 N7
        obtain ⟨k7, tt7, ut7, D7, rfl, hm7, hk7, hq7⟩ : ∃ k tt ut D, v7 = .ref D ∧ (D, ({ cls := .type "tuple", data := .seq #[.str (fig2 k) tt, .int k ut] } : Obj)) ∈ led ∧ LineOk k ∧ (fig2 k).length ≤ 100 := by
          simp only [List.mem_cons, List.not_mem_nil, or_false] at hv7
          rcases hv7 with rfl | rfl
          · exact ⟨_, _, _, _, rfl, hs7 _ (by k_mem), hk1, ql7⟩
          · exact ⟨_, _, _, _, rfl, hs7 _ (by k_mem), hk2, ql6⟩
        have hA := (hJ7 (Str.ofString "section") (by decide)).trans (show _ = some (Value.str x3 tt3) by with_unfolding_all rfl)
        have hB := (hJ7 (Str.ofString "option") (by decide)).trans (show _ = some (Value.str x4 tt4) by with_unfolding_all rfl)
        have hC := (hJ7 (Str.ofString "source") (by decide)).trans (show _ = some (Value.str x5 tt5) by with_unfolding_all rfl)
        have hT7 := News.isTup N7 hm7
        replace F7 := fr_names [(Str.ofString "section", .str x3 tt3), (Str.ofString "option", .str x4 tt4), (Str.ofString "source", .str x5 tt5)] (List.forall_mem_cons.mpr ⟨(hJ7 (Str.ofString "section") (by decide)).trans (by with_unfolding_all rfl), List.forall_mem_cons.mpr ⟨(hJ7 (Str.ofString "option") (by decide)).trans (by with_unfolding_all rfl), List.forall_mem_cons.mpr ⟨(hJ7 (Str.ofString "source") (by decide)).trans (by with_unfolding_all rfl), List.forall_mem_nil _⟩⟩⟩) F7
        dsimp only [kstB] at F7
        clear F4 N4
        k_steps
        with_reducible rename Fr _ _ _ _ => F9
        with_reducible rename News _ _ _ _ => N9
        refine InvEnd.intro F9 N9 (fun p hp => by repeat (first | exact hp | apply List.mem_cons_of_mem)) ?_
        intro z hz
        refine Eq.trans ?_ (hJ7 z hz)
        simp only [junk05, List.mem_cons, List.not_mem_nil, or_false, not_or] at hz
        obtain ⟨z1, z2, z3, z4, z5⟩ := hz
        simp only [if_neg z1, if_neg z2, if_neg z3, if_neg z4, if_neg z5]
        by_cases e1 : z = Str.ofString "section"
        · rw [if_pos e1, e1, hA]
        by_cases e2 : z = Str.ofString "option"
        · rw [if_neg e1, if_pos e2, e2, hB]
        by_cases e3 : z = Str.ofString "source"
        · rw [if_neg e1, if_neg e2, if_pos e3, e3, hC]
        rw [if_neg e1, if_neg e2, if_neg e3]
))
end Mine
end
theorem PySem.Challenge.cw_dm0028_05_holds : PySem.Challenge.rw_dm0028_05.Holds :=
  Mine.foo
