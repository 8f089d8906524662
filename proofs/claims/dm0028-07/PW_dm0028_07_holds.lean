import PyProof.Rows.All
import Wide.All
import OpenK.AllK
import Wide.FinOn
import PySem.Challenge.RW_dm0028_07
set_option Elab.async false
section
namespace Mine
section
variable {a b : Nat} {y : Prop}
theorem qlt (h : a < b ∧ y) : a ≠ b := Nat.ne_of_lt (h.1)
theorem rlt (h : a < b) : a ≠ b := Nat.ne_of_lt (h)
theorem qgt (h : b < a ∧ y) : a ≠ b := Nat.ne_of_gt (h.1)
theorem rgt (h : b < a) : a ≠ b := Nat.ne_of_gt (h)
theorem qne (h : a ≠ b ∧ y) : a ≠ b := h.1
theorem rne (h : a ≠ b) : a ≠ b := h
theorem qen (h : b ≠ a ∧ y) : a ≠ b := Ne.symm (h.1)
theorem ren (h : b ≠ a) : a ≠ b := Ne.symm (h)
theorem ns1 : a ≠ a + 1 := Nat.ne_of_lt (Nat.lt_succ_self _)
theorem ns2 : a + 1 ≠ a := Nat.ne_of_gt (Nat.lt_succ_self _)
end
end Mine
end
section
open PySem PySem.W PySem.Calls PyProof.Rows
set_option Elab.async false
set_option maxRecDepth 100000
set_option maxHeartbeats 4000000
namespace Mine
section
variable {prog : Program} {w : World} {A : Around} {R : Result → Shared → Prop} {h : Heap} {g : Array GenState} {d : Drawn} {t : Nat} {os : OsState}
variable {nm q : Str} {C N : Addr} {bs bm : List Value} {hdct : Bool} {sn : List Str} {sub : List Value} {ab : Bool} {col : Option Bool} {dd : Option Addr} {k0 k1 k2 k3 k5 : Option Value}

abbrev excObj (C : Addr) (d : Option Addr) (t : Addr) : Obj := ⟨.ref C, d, .fields #[.ref t, .none, .none, .none, .bool false, .none], #[]⟩
abbrev tupObj (vs : List Value) : Obj := { cls := .type "tuple", data := .seq vs.toArray }

theorem exc_new {rest : List Value} {kw : List (Str × Value)} (hC : h.get? C = some (excClassObj nm q C N bs bm hdct sn sub ab col dd k0 k1 k2 k3 k5 "Exception.__new__"))
    (hcB : (Value.ref C :: bm).contains (.type "Exception") = true) (hcA : (Value.ref C :: bm).contains (.type "AttributeError") = false) (hcN : (Value.ref C :: bm).contains (.type "NameError") = false)
    (hq : R (.ok (.ret (.ref (h.objs.size + 1)))) ⟨(h.push (tupObj rest)).push (excObj C none h.objs.size), g, d, t, os⟩) (hrest : rest.length ≤ sizeLine) :
    codeAny (model prog w) A (.builtin "Exception.__new__" ⟨.ref C :: rest, kw⟩) R ⟨h, g, d, t, os⟩ := by
  have F := PySem.F.excBase_Exception
  have hends := F.ends
  refine codeAny_builtinAt F.entry ?_
  unfold Builtin.«BaseException.__new__»
  refine PySem.wpAt_bind ?_
  show PySem.wpAt _ _ _ (stack >>= _) _ _ _
  refine PySem.wpAt_bind (PySem.wpAt_stack fun p below => PySem.wpAt_of_wpAny ?_)
  wp_walk
  refine PySem.wpAt_of_wpAny ?_
  rw [F.owner]
  repeat (first | with_reducible refine wpAny_madeHere_exc F.canon hC ?_ | with_reducible refine wpAny_loadPart_at hC ?_ | (with_reducible refine wpAny_isSubtype_exc hC ?_; first | rw [hcB] | rw [hcA] | rw [hcN]) | wp_step)
  show R _ _
  rw [Heap.size_push]
  exact hq

theorem exc_check_new {M : Model} {E : Value → Shared → Prop} {rest : List Value} {kw : List (Str × Value)} {Q : Unit → Shared → Prop} (hC : h.get? C = some (excClassObj nm q C N bs bm hdct sn sub ab col dd k0 k1 k2 k3 k5 "Exception.__new__"))
    (hcB : (Value.ref C :: bm).contains (.type "Exception") = true)
    (hq : Q () ⟨h, g, d, t, os⟩) : wpAny M A (checkBuiltinCall "Exception.__new__" ⟨.ref C :: rest, kw⟩) Q E ⟨h, g, d, t, os⟩ := by
  have F := PySem.F.excBase_Exception
  have hstar := F.noStar
  simp only [checkBuiltinCall, F.newKind, F.newSplit, F.newRow]
  repeat (first | refine wpAny_loadPart_at hC ?_ | (refine wpAny_isSubtype_exc hC ?_; rw [hcB]) | refine wpAny_staticBase_exc hC ?_ | refine wpAny_madeBy_exc hC ?_ | simp only [bne_self_eq_false, Bool.false_eq_true, if_false] | wp_step)
  exact hq
end
end Mine
end
section
open PySem PySem.W PySem.Calls PyProof.Rows
set_option Elab.async false
set_option maxRecDepth 100000
set_option maxHeartbeats 4000000
namespace Mine
section
variable {prog : Program} {w : World} {A : Around} {R : Result → Shared → Prop} {h : Heap} {g : Array GenState} {d : Drawn} {t : Nat} {os : OsState}
variable {nm q : Str} {C N : Addr} {bs bm : List Value} {hdct : Bool} {sn : List Str} {sub : List Value} {ab : Bool} {col : Option Bool} {dd : Option Addr} {k0 k1 k2 k3 k5 : Option Value}

theorem exc_make {rest : List Value} {kw : List (Str × Value)} {fI : Addr} (hC : h.get? C = some (excClassObj nm q C N bs bm hdct sn sub ab col dd k0 k1 k2 k3 k5 "Exception.__new__"))
    (hcB : (Value.ref C :: bm).contains (.type "Exception") = true) (hcA : (Value.ref C :: bm).contains (.type "AttributeError") = false) (hcN : (Value.ref C :: bm).contains (.type "NameError") = false)
    (call : Looks (model prog w) h (specialOf (.ref C) "__call__") (some (.builtin "type.__call__"))) (typ : Looks (model prog w) h (isInstance (.ref C) (.type "type")) true)
    (hi : Looks (model prog w) h (typeLookup (.ref C) "__init__") (some (.ref fI))) (hb : ∀ self, Looks (model prog w) h (bindSpecial (.ref fI) self) (.ref fI, [self])) (hrest : rest.length ≤ sizeLine)
    (hq : codeAny (model prog w) (A.under (.builtin "type.__call__" ⟨.ref C :: rest, kw⟩)) (.call (.ref fI) ⟨.ref (h.objs.size + 1) :: rest, kw⟩) (InitBack (h.objs.size + 1) R) ⟨(h.push (tupObj rest)).push (excObj C none h.objs.size), g, d, t, os⟩) :
    codeAny (model prog w) A (.call (.ref C) ⟨rest, kw⟩) R ⟨h, g, d, t, os⟩ := by
  refine codeAny_of_tree ?_
  show wpAny _ _ (callAny (.ref C) _) _ _ _
  refine nd_load hC ?_
  show wpAny _ _ (callAny.viaDunder (.ref C) _) _ _ _
  unfold callAny.viaDunder
  refine wpAny_bind (call.at ?_)
  dsimp only
  rw [tc_bind]
  refine wpAny_bind (wpAny_pure (wpAny_bind (wpAny_pure ?_)))
  refine wpAny_pure (a := Fin.again (.call (.builtin "type.__call__") ⟨.ref C :: rest, kw⟩)) (And.intro rfl ?_)
  refine codeAny_call_builtin_at (Code.quiet_builtin _ (by decide +kernel)) entry_typeCall (check_slot tc_kind tc_split typ (tc_args _ _ _) ?_)
  unfold Builtin.«type.__call__»
  have hm : Looks (model prog w) h (mroOf (.ref C)) (.ref C :: bm) := ((Looks.ld (part := none) hC).andThen .now).andThen .now
  have made : Looks (model prog w) h (Bind.madeBy (.ref C)) (some "Exception.__new__") := by
    intro A Q E s k q
    obtain ⟨hh, g, d, t, os⟩ := s
    exact wpAny_madeBy_exc (k _ _ hC) q
  repeat (first | with_reducible refine wpAny_call ?_ | lk)
  refine codeAny_call_builtin_code (Code.quiet_builtin _ PySem.F.excBase_Exception.quiet) (exc_check_new hC hcB ?_)
  refine exc_new hC hcB hcA hcN ?_ hrest
  have k : ∀ b o, h.get? b = some o → ((h.push (tupObj rest)).push (excObj C none h.objs.size)).get? b = some o := fun b o e => Heap.get?_push_of_some _ (Heap.get?_push_of_some _ e)
  have hx : ((h.push (tupObj rest)).push (excObj C none h.objs.size)).get? (h.objs.size + 1) = some (excObj C none h.objs.size) := by heap_get
  have t1 : Looks (model prog w) ((h.push (tupObj rest)).push (excObj C none h.objs.size)) (typeOf (.ref (h.objs.size + 1))) (.ref C) := (Looks.ld hx).andThen .now
  have s1 : Looks (model prog w) ((h.push (tupObj rest)).push (excObj C none h.objs.size)) (isSubtype (.ref C) (.ref C)) true := by
    intro A Q E s k' q
    obtain ⟨hh, g, d, t, os⟩ := s
    exact wpAny_isSubtype_exc (k' _ _ (k _ _ hC)) (by rw [show (Value.ref C :: bm).contains (.ref C) = true from by simp]; exact q)
  have i1 := hi.keeps k
  have b1 := (hb (.ref (h.objs.size + 1))).keeps k
  unfold isInstance callSpecial? specialOf
  repeat (first | with_reducible refine wpAny_call ?_ | lk)
  refine codeAny_mono hq fun r s' z => ?_
  rcases r with e | (v | _ | _ | _) <;> first | exact z | exact z.elim | skip
  obtain ⟨rfl, z⟩ := z
  exact wpAny_pure (wpAny_pure z)
end
end Mine
end
section
open PySem PySem.W PySem.Calls PyProof.Rows PySem.Builtin PySem.Builtin.ObjectAttr
set_option Elab.async false
set_option maxRecDepth 100000
set_option maxHeartbeats 4000000
namespace Mine
def excTail : List Value → Bool
  | [.type a, .type b, .type c] => a == "Exception" && b == "BaseException" && c == "object"
  | .ref _ :: r => excTail r
  | _ => false
theorem refuse_base (self : Value) : refuseLoop self "__setattr__" [.type "Exception", .type "BaseException", .type "object"] = pure () := by kernel_rfl
theorem excTail_cases {l : List Value} (e : excTail l = true) : (∃ a b c, l = [.type a, .type b, .type c] ∧ a = "Exception" ∧ b = "BaseException" ∧ c = "object") ∨ (∃ a r, l = .ref a :: r ∧ excTail r = true) := by
  unfold excTail at e
  split at e
  · rename_i a b c
    simp only [Bool.and_eq_true, beq_iff_eq] at e
    exact .inl ⟨a, b, c, rfl, e.1.1, e.1.2, e.2⟩
  · rename_i a r; exact .inr ⟨a, r, rfl, e⟩
  · cases e
theorem refuse_exc (self : Value) : ∀ {l : List Value}, excTail l = true → refuseLoop self "__setattr__" l = pure ()
  | l, e => by
    rcases excTail_cases e with ⟨a, b, c, rfl, rfl, rfl, rfl⟩ | ⟨a, r, rfl, e'⟩
    · exact refuse_base self
    · rw [refuseLoop_ref]; exact refuse_exc self e'
termination_by l => l.length
theorem excTail_obj : ∀ {l : List Value}, excTail l = true → l.contains (.type "object") = true
  | l, e => by
    rcases excTail_cases e with ⟨a, b, c, rfl, rfl, rfl, rfl⟩ | ⟨a, r, rfl, e'⟩
    · decide
    · rw [List.contains_cons, excTail_obj e', Bool.or_true]
termination_by l => l.length
def excOver (K : Frag) (C : Addr) : Bool := (clsIn K C).any fun cd => excTail cd.mro

section
variable {prog : Program} {w : World} {A : Around} {K : Frag} {C x : Addr} {s : Shared} {h₀ : Heap} {L : Addr} {m : Str → Option Value} {news : List (Addr × Obj)} {R : Result → Shared → Prop}
theorem exc_osa_open {ox : Obj} {od : Option Obj} {name : Str} {tk : Tok} {v : Value} {r : Option Value} (X : K.In s.heap) (I : InstAt s.heap x ox C od) (hp : excOver K C = true) (ht : takerIn K C name = some r)
    (h : ∀ b, wpAny (model prog w) A.in1 (match r with | some a => setByDescriptor a (.ref x) v | none => storeInOwnDict (.ref x) (.ref C) (.str name tk) name v b)
      (fun fin s' => match fin with | .done f => R (.ok f) s' | .again c' => c'.quiet = true ∧ codeAny (model prog w) A c' R s') (fun e s' => R (.error e) s') s) :
    codeAny (model prog w) A (.call (.builtin "object.__setattr__") ⟨[.ref x, .str name tk, v], []⟩) R s := by
  have SF := PySem.F.store_object
  obtain ⟨cd, hc, ho⟩ := any_some hp
  have ne : cd.mro.isEmpty = false := by cases q : cd.mro with | nil => rw [q] at ho; cases ho | cons _ _ => rfl
  have sub : Looks (model prog w) s.heap (isInstance (.ref x) (.type "object")) true := I.type.andThen (looks_mroIn X (by unfold mroIn; rw [hc, Option.bind_some, if_neg (by rw [ne]; decide), excTail_obj ho]))
  refine codeAny_call_builtin SF.slot.plain SF.entry (@check_slot (model prog w) _ _ s "object.__setattr__" "object" "__setattr__" (.ref x) [.str name tk, v] [] _ SF.kind SF.split sub (SF.args (.ref x) (.str name tk) v) ?_)
  obtain ⟨attr, ha, hr⟩ := Option.bind_eq_some_iff.mp ht
  have hm : Looks (model prog w) s.heap (mroOf (.ref C)) cd.mro := (looks_clsIn X hc).andThen .now
  have L3 : Looks (model prog w) s.heap (storeTaker? attr) r := by
    cases attr with
    | none => cases hr; exact .now
    | some a =>
      obtain ⟨b, hb, rfl⟩ := Option.map_eq_some_iff.mp hr
      refine (looks_takesIn X hb).andThen ?_
      cases b <;> exact .now
  rw [osa_eq, refuse_eq]
  refine wpAny_bind (wpAny_bind (I.type.here (wpAny_bind (hm.here ?_))))
  rw [refuse_exc _ ho]
  refine wpAny_pure (wpAny_bind (I.type.here (wpAny_bind ((looks_findIn X ha).here (wpAny_bind (L3.here ?_))))))
  exact h _
end
end Mine
end
section
open PySem PySem.W PySem.Calls PyProof.Rows PySem.Builtin PySem.Builtin.ObjectAttr
set_option Elab.async false
set_option maxRecDepth 100000
set_option maxHeartbeats 4000000
namespace Mine
section
variable {prog : Program} {w : World} {A : Around} {E : Value → Shared → Prop} {K : Frag} {C x dx ta : Addr} {s : Shared} {h₀ : Heap} {L : Addr} {m : Str → Option Value} {news news' : List (Addr × Obj)} {R : Result → Shared → Prop}
theorem InstAt.of_exc {h : Heap} {od : Obj} (N : News h₀ L h news) (h1 : (x, excObj C (some dx) ta) ∈ news) (h2 : (dx, od) ∈ news) : InstAt h x (excObj C (some dx) ta) C (some od) := ⟨(N _ h1).1, rfl, rfl, (N _ h2).1⟩
theorem InstAt.of_exc0 {h : Heap} (N : News h₀ L h news) (h1 : (x, excObj C none ta) ∈ news) : InstAt h x (excObj C none ta) C none := ⟨(N _ h1).1, rfl, rfl, trivial⟩

/-- the store into an own dict that stands -/
theorem exc_osa_dict {od od' : Obj} {name : Str} {tk : Tok} {v : Value} {pre post : List (Addr × Obj)} {es : List DictEntry} {n : Nat} (F : Fr h₀ L s.heap m) (N : News h₀ L s.heap (pre ++ (dx, od) :: post)) (X : K.In s.heap)
    (I : InstAt s.heap x (excObj C (some dx) ta) C (some od)) (hp : excOver K C = true) (ht : takerIn K C name = some none) (hh : hasDictIn K C = true)
    (hl : (lookIn name od).isSome = true) (h1 : ∀ p ∈ pre, p.1 ≠ dx) (h2 : ∀ p ∈ post, p.1 ≠ dx)
    (e : Obj.putName name (PyData.keyHash w.params name) (.str name s.toks) v od = od') (e' : od'.data = .dict es.toArray n) (hz : es.length ≤ 1000)
    (h : ∀ h', Fr h₀ L h' m → News h₀ L h' (pre ++ (dx, od') :: post) → R (.ok (.ret .none)) { s with heap := h', toks := s.toks + 1 }) :
    codeAny (model prog w) A (.call (.builtin "object.__setattr__") ⟨[.ref x, .str name tk, v], []⟩) R s := by
  refine exc_osa_open X I hp ht fun b => ?_
  obtain ⟨cd, hc, hd'⟩ := any_some hh
  obtain ⟨U1, U2⟩ := news_upd (f := Obj.putName name (PyData.keyHash w.params name) (.str name s.toks) v) F N h1 h2 e (by obtain ⟨_, _, dd, _⟩ := od'; cases e'; rfl)
  have D := (N (dx, od) (by simp)).1
  have D' := (U2 (dx, od') (by simp)).1
  obtain ⟨hx, -, -, -⟩ := I
  refine wpAny_bind (wpAny_pure (wpAny_bind (wpAny_bind (wpAny_loadPart hx (wpAny_bind ((looks_clsIn X hc).here ?_))))))
  rw [hd']
  refine wpAny_pure (a := some dx) (wpAny_bind (wpAny_pure (wpAny_bind ?_)))
  unfold nsSet
  refine wpAny_bind (wpAny_bind (wpAny_askSetting (wpAny_pure (wpAny_bind (wpAny_mkText (wpAny_bind (wpAny_loadPart D ?_)))))))
  unfold lookIn at hl
  split at hl
  · rename_i es₀ n₀ q
    rw [q]
    dsimp only
    have c : (!es₀.any (·.key.isStr name) && es₀.any (·.refKey)) = false := by
      rw [← Array.any_toList, ← Array.any_toList]
      split at hl
      · rename_i en he
        rw [List.any_eq_true.mpr ⟨en, List.mem_of_find?_eq_some he, List.find?_some he⟩]; rfl
      · split at hl
        · cases hl
        · rename_i z; rw [Bool.not_eq_true] at z; rw [z, Bool.and_false]
    rw [aRefKeyMayBeTheName_at, c]
    refine wpAny_updatePart D ?_
    refine wpAny_bind (wpAny_lookBehind D' (by rw [e']; exact pastItsLine_dict (by rw [List.size_toArray, sizeLine_eq]; omega)) ?_)
    exact wpAny_pure (h _ U1 U2)
  · cases hl

theorem exc_set {es es' : List DictEntry} {n n' : Nat} {name : Str} {v : Value} {Q : Unit → Shared → Prop} (F : Fr h₀ L s.heap m) (X₀ : K.In h₀) (N : News h₀ L s.heap news) (I : InstAt s.heap x (excObj C (some dx) ta) C (some (dictOf es n)))
    (hs : findIn K (.ref C) "__setattr__" = some (some (.builtin "object.__setattr__"))) (hp : excOver K C = true) (ht : takerIn K C name = some none) (hh : hasDictIn K C = true) (hl : (getL name es).isSome = true)
    (e : (putL name (PyData.keyHash w.params name) (.str name (s.toks + 1)) v es, putN name es n) = (es', n')) (U : Upd dx (dictOf es n) (dictOf es' n') news news') (hz : es'.length ≤ 1000)
    (h : ∀ h', Fr h₀ L h' m → News h₀ L h' news' → Q () { s with heap := h', toks := s.toks + 2 }) :
    wpAny (model prog w) A (setAttr (.ref x) name v) Q E s := by
  obtain ⟨pre, post, rfl, rfl, a, b⟩ := U.split
  obtain ⟨e1, e2⟩ := Prod.mk.inj e
  exact set_plain (X₀.keeps F.keep) I hs (exc_osa_dict (s := { s with toks := s.toks + 1 }) F N (X₀.keeps F.keep) I hp ht hh hl a b (by rw [putName_dict, e1, e2]) rfl hz fun h' F' N' => h h' F' N')

/-- the first store makes the dict -/
theorem exc_set0 {news' : Addr → List (Addr × Obj)} {name : Str} {v : Value} {Q : Unit → Shared → Prop} (F : Fr h₀ L s.heap m) (X₀ : K.In h₀) (N : News h₀ L s.heap news) (hx : (x, excObj C none ta) ∈ news)
    (hs : findIn K (.ref C) "__setattr__" = some (some (.builtin "object.__setattr__"))) (hp : excOver K C = true) (ht : takerIn K C name = some none) (hh : hasDictIn K C = true)
    (U : ∀ d, Upd x (excObj C none ta) (excObj C (some d) ta) news (news' d))
    (h : ∀ d h', Fr h₀ L h' m → News h₀ L h' ((d, dictOf [⟨PyData.keyHash w.params name, .str name (s.toks + 1), v⟩] 1) :: news' d) → (∀ p ∈ news, p.1 < d) → Q () { s with heap := h', toks := s.toks + 2 }) :
    wpAny (model prog w) A (setAttr (.ref x) name v) Q E s := by
  have I := InstAt.of_exc0 N hx
  have X := X₀.keeps F.keep
  refine set_plain X I hs (exc_osa_open (s := { s with toks := s.toks + 1 }) X I hp ht fun b => ?_)
  obtain ⟨pre, post, e1, e2, a, b⟩ := (U s.heap.objs.size).split
  obtain ⟨cd, hc, hd'⟩ := any_some hh
  have hxx := I.at_
  refine wpAny_bind (wpAny_pure (wpAny_bind (wpAny_bind (wpAny_loadPart hxx (wpAny_bind (looks_clsIn X hc _ _ _ _ (fun _ _ e => e) ?_))))))
  rw [hd']
  have F1 := F.push emptyDict
  have N1 : News h₀ L (s.heap.push emptyDict) ((s.heap.objs.size, emptyDict) :: news) := N.push F emptyDict
  rw [e1] at N1
  have hlt : ∀ p ∈ news, p.1 < s.heap.objs.size := fun p hp => Heap.lt_size (N p hp).1
  have hxn : s.heap.objs.size ≠ x := fun z => absurd (hlt _ hx) (by rw [← z]; exact Nat.lt_irrefl _)
  obtain ⟨U1, U2⟩ := news_upd (pre := (s.heap.objs.size, emptyDict) :: pre) (f := fun o => { o with dict := some s.heap.objs.size }) F1 N1 (fun p hp => by rcases List.mem_cons.mp hp with rfl | hp; exact hxn; exact a p hp) b (o' := excObj C (some s.heap.objs.size) ta) rfl rfl
  refine wpAny_bind (wpAny_alloc (wpAny_bind (wpAny_update (Heap.get?_push_of_some _ hxx) ?_)))
  refine wpAny_pure (a := some s.heap.objs.size) (wpAny_bind (wpAny_pure (wpAny_bind ?_)))
  have D := (U2 (s.heap.objs.size, emptyDict) (by simp)).1
  have he : Obj.putName name (PyData.keyHash w.params name) (.str name (s.toks + 1)) v (dictOf [] 0) = dictOf [⟨PyData.keyHash w.params name, .str name (s.toks + 1), v⟩] 1 := by rw [putName_dict]; rfl
  obtain ⟨V1, V2⟩ := news_upd (pre := []) (d := s.heap.objs.size) (o := dictOf [] 0) (f := Obj.putName name (PyData.keyHash w.params name) (.str name (s.toks + 1)) v) U1 U2 (fun _ hp => nomatch hp)
    (fun p hp => by
      rcases List.mem_append.mp hp with hp | hp
      · exact Nat.ne_of_lt (hlt p (by rw [e1]; exact List.mem_append.mpr (.inl hp)))
      · rcases List.mem_cons.mp hp with rfl | hp
        · exact Ne.symm hxn
        · exact Nat.ne_of_lt (hlt p (by rw [e1]; exact List.mem_append.mpr (.inr (.tail _ hp))))) he rfl
  have D' := (V2 (s.heap.objs.size, dictOf [⟨PyData.keyHash w.params name, .str name (s.toks + 1), v⟩] 1) (.head _)).1
  unfold nsSet
  refine wpAny_bind (wpAny_bind (wpAny_askSetting (wpAny_pure (wpAny_bind (wpAny_mkText (wpAny_bind (wpAny_loadPart D ?_)))))))
  dsimp only
  have c : (!(#[] : Array DictEntry).any (·.key.isStr name) && (#[] : Array DictEntry).any (·.refKey)) = false := by simp
  rw [aRefKeyMayBeTheName_at, c]
  refine wpAny_updatePart D ?_
  refine wpAny_bind (wpAny_lookBehind D' (pastItsLine_dict (by rw [List.size_toArray, sizeLine_eq]; simp)) ?_)
  refine wpAny_pure (h s.heap.objs.size _ V1 ?_ hlt)
  rw [e2]
  exact V2
end
end Mine
end
section
open PySem PySem.W PySem.Calls PyProof.Rows PySem.Builtin PySem.Builtin.ObjectAttr PySem.Builtin.Getset_descriptor
set_option Elab.async false
set_option maxRecDepth 100000
set_option maxHeartbeats 4000000
namespace Mine
theorem entry_gss : entryFor table "getset_descriptor.__set__" = some Builtin.«getset_descriptor.__set__» := entryFor_of_tree (by kernel_rfl)
theorem entry_ba_set : entryFor table "BaseException.args#set" = some Builtin.«BaseException.args#set» := entryFor_of_tree (by kernel_rfl)
theorem args_gss (a b c : Value) : argsOk "getset_descriptor.__set__" ⟨[a, b, c], []⟩ := by unfold argsOk; kernel_rfl
theorem owner_bargs : descrOwnerAndName "BaseException.args" = ("BaseException", "args") := by unfold descrOwnerAndName; rw [show "BaseException.args".cutAt '.' = ["BaseException", "args"] from by first | rfl | decide +kernel]; decide +kernel
section
variable {prog : Program} {w : World} {A : Around} {E : Value → Shared → Prop} {K : Frag} {C x dx ta tv : Addr} {s : Shared} {h₀ : Heap} {L : Addr} {m : Str → Option Value} {news news' : List (Addr × Obj)} {R : Result → Shared → Prop} {d : Option Addr} {news'' : Addr → List (Addr × Obj)}

theorem exc_put {Q : Unit → Shared → Prop} (F : Fr h₀ L s.heap m) (N : News h₀ L s.heap news) (U : Upd x (excObj C d ta) (excObj C d tv) news news')
    (h : ∀ h', Fr h₀ L h' m → News h₀ L h' news' → Q () { s with heap := h' }) : wpAny (model prog w) A (Builtin.BaseException.bexcPut (.ref x) 0 (.ref tv)) Q E s := by
  obtain ⟨pre, post, rfl, rfl, a, b⟩ := U.split
  obtain ⟨U1, U2⟩ := news_upd (f := Obj.mapFields (·.setIfInBounds 0 (.ref tv))) F N a b (o' := excObj C d tv) rfl rfl
  have hx : s.heap.get? x = some (excObj C d ta) := (N (x, excObj C d ta) (by simp)).1
  unfold Builtin.BaseException.bexcPut
  refine wpAny_bind (wpAny_field hx rfl (x := .ref ta) rfl (wpAny_bind (wpAny_setField hx rfl (show 0 < 6 by decide) ?_)))
  exact wpAny_letGo (h _ U1 U2)

theorem exc_set_args {its : Array Value} {od : Option Obj} {Q : Unit → Shared → Prop} (F : Fr h₀ L s.heap m) (X₀ : K.In h₀) (N : News h₀ L s.heap news) (I : InstAt s.heap x (excObj C d ta) C od) (ht : s.heap.IsTuple tv its)
    (hs : findIn K (.ref C) "__setattr__" = some (some (.builtin "object.__setattr__"))) (hp : excOver K C = true) (hk : takerIn K C "args" = some (some (.builtin "BaseException.args"))) (hB : subIn K (.ref C) (.type "BaseException") = some true)
    (U : Upd x (excObj C d ta) (excObj C d tv) news news')
    (h : ∀ h', Fr h₀ L h' m → News h₀ L h' news' → Q () { s with heap := h', toks := s.toks + 1 }) : wpAny (model prog w) A (setAttr (.ref x) "args" (.ref tv)) Q E s := by
  have X := X₀.keeps F.keep
  refine set_plain X I hs (exc_osa_open (s := { s with toks := s.toks + 1 }) X I hp hk fun b => ?_)
  have S := PySem.F.slot_gs_set
  have hty : typeOf (.builtin "BaseException.args") = pure (.type "getset_descriptor") := PySem.F.typeOf_bexc_args
  refine wpAny_bind (wpAny_rule (wpAny_bind (wpAny_holding (wpAny_bind (wpAny_bind ((Looks.of_pure hty) _ _ _ _ (fun _ _ e => e) ((Looks.of_pure S.lookup) _ _ _ _ (fun _ _ e => e) (wpAny_holding ?_))))))))
  rw [S.bind]
  refine wpAny_bind (wpAny_pure (wpAny_bind (wpAny_call ?_)))
  have hT : ({ s with toks := s.toks + 1 } : Shared).TypeIs (.builtin "BaseException.args") "getset_descriptor" := PySem.F.typeOf_bexc_args
  refine codeAny_call_builtin S.plain entry_gss (S.check _ _ _ _ _ _ _ _ hT (args_gss _ _ _) ?_)
  show wpAny _ _ (descrStoreThrough "getset" (.builtin "BaseException.args") (.ref x) (some (.ref tv))) _ _ _
  unfold descrStoreThrough descrCheckInstance descrNameAndClass isInstance
  simp only [owner_bargs]
  refine wpAny_bind (wpAny_bind (wpAny_pure (wpAny_bind (wpAny_bind (I.type _ _ _ _ (fun _ _ e => e) (looks_subIn X hB _ _ _ _ (fun _ _ e => e) ?_))))))
  refine wpAny_pure (wpAny_bind (wpAny_pure ?_))
  refine wpAny_pure (And.intro (Code.quiet_builtin _ (by decide +kernel)) (codeAny_builtin entry_ba_set ?_))
  unfold Builtin.«BaseException.args#set»
  refine wpAny_bind (call_tuple_same (s := { s with toks := s.toks + 1 }) ht (wpAny_bind (exc_put (s := { s with toks := s.toks + 1 }) F N U fun h' F' N' => ?_)))
  exact wpAny_pure (wpAny_pure (wpAny_pure (h h' F' N')))

theorem exc_init_call {v : Value} {od : Option Obj} {Q : Value → Shared → Prop} (F : Fr h₀ L s.heap m) (X₀ : K.In h₀) (N : News h₀ L s.heap news) (I : InstAt s.heap x (excObj C d ta) C od)
    (hE : subIn K (.ref C) (.type "Exception") = some true) 
    (U : ∀ t, Upd x (excObj C d ta) (excObj C d t) news (news'' t))
    (h : ∀ t h', Fr h₀ L h' m → News h₀ L h' ((t, tupObj [v]) :: news'' t) → (∀ p ∈ news, p.1 < t) → Q .none { s with heap := h' }) : wpAny (model prog w) A (call (.builtin "Exception.__init__") [.ref x, v]) Q E s := by
  have X := X₀.keeps F.keep
  have FE := PySem.F.excBase_Exception
  obtain ⟨hh, g, dr, t, os⟩ := s
  refine wpAny_call (codeAny_call_builtin FE.init.plain FE.initEntry ?_)
  have hshort := FE.noStar
  have t1 := I.type (M := model prog w)
  have s1 := looks_subIn (M := model prog w) X hE
  obtain ⟨cd, hcd⟩ : ∃ cd, clsIn K C = some cd := by
    unfold subIn mroIn at hE
    cases q : clsIn K C with
    | none => simp only [q] at hE; cases hE
    | some cd => exact ⟨cd, rfl⟩
  have c1 := looks_clsIn (M := model prog w) X hcd
  simp only [checkBuiltinCall, FE.initKind, FE.initSplit, FE.initRow]
  unfold isInstance
  dsimp only at t1 s1 c1
  repeat lk
  have F1 := F.push (tupObj [v])
  have N1 : News h₀ L (hh.push (tupObj [v])) ((hh.objs.size, tupObj [v]) :: news) := N.push F (tupObj [v])
  have hlt : ∀ p ∈ news, p.1 < hh.objs.size := fun p hp => Heap.lt_size (N p hp).1
  obtain ⟨pre, post, e1, e2, a, b⟩ := (U hh.objs.size).split
  have hx : (hh.push (tupObj [v])).get? x = some (excObj C d ta) := Heap.get?_push_of_some _ I.at_
  have hxn : hh.objs.size ≠ x := fun z => absurd (Heap.lt_size I.at_) (by rw [← z]; exact Nat.lt_irrefl _)
  rw [e1] at N1
  obtain ⟨U1, U2⟩ := news_upd (pre := (hh.objs.size, tupObj [v]) :: pre) (f := Obj.mapFields (·.setIfInBounds 0 (.ref hh.objs.size))) F1 N1 (fun p hp => by rcases List.mem_cons.mp hp with rfl | hp; exact hxn; exact a p hp) b (o' := excObj C d hh.objs.size) rfl rfl
  refine nd_load hx (wpAny_pure (wpAny_pure (wpAny_pure (a := Value.ref ta) (wpAny_bind (wpAny_setField hx rfl (show 0 < 6 by decide) (wpAny_letGo (wpAny_pure ?_)))))))
  refine h hh.objs.size _ U1 ?_ hlt
  rw [e2]
  exact U2
end
end Mine
end
section
open PySem PySem.W PySem.Calls PyProof.Rows PySem.Builtin PySem.Builtin.ObjectAttr PySem.Builtin.Getset_descriptor
set_option Elab.async false
set_option maxRecDepth 100000
set_option maxHeartbeats 4000000
namespace Mine
theorem bga_kind : builtinKind "BaseException.__getattribute__" = some .slot := by decide +kernel
theorem bga_split : splitId "BaseException.__getattribute__" = some ("BaseException", "__getattribute__") := by decide +kernel
theorem bga_plain : plainId "BaseException.__getattribute__" = true := by decide +kernel
theorem bga_bind (self : Value) : bindSpecial (.builtin "BaseException.__getattribute__") self = pure (.builtin "BaseException.__getattribute__", [self]) := PySem.F.excAttr_ValueError.ga.bind self
def excGet (K : Frag) (C : Addr) : Bool := findIn K (.ref C) "__getattribute__" == some (some (.builtin "BaseException.__getattribute__")) && findIn K (.ref C) "__getattr__" == some none && subIn K (.ref C) (.type "BaseException") == some true
section
variable {prog : Program} {w : World} {A : Around} {E : Value → Shared → Prop} {s : Shared} {K : Frag} {x C ta : Addr} {ox : Obj} {od : Option Obj} {name : Str} {expr : Bool} {Q : Value → Shared → Prop}
theorem exc_get_open {r : Found} (X : K.In s.heap) (I : InstAt s.heap x ox C od) (hg : excGet K C = true) (hf : findObj K C od name = some r)
    (h : codeAny (model prog w) A (.call (.builtin "BaseException.__getattribute__") ⟨[.ref x, .str name s.toks], []⟩) (fun r s' => match r with | .ok (.ret v) => wpAny (model prog w) A (handedOut v) Q E s' | _ => False) { s with toks := s.toks + 1 }) :
    wpAny (model prog w) A (getAttr (.ref x) name expr) Q E s := by
  simp only [excGet, Bool.and_eq_true, beq_iff_eq] at hg
  obtain ⟨⟨h1, h2⟩, h3⟩ := hg
  obtain ⟨hh, g, d, t, os⟩ := s
  have L0 := I.type (M := model prog w)
  have L1 := looks_findIn (M := model prog w) X h1
  have L2 := looks_findIn (M := model prog w) X h2
  unfold getAttr getAttrBy
  refine wpAny_bind (wpAny_mkText (wpAny_holding (wpAny_bind (L0.at (wpAny_bind (L1.at ?_))))))
  dsimp only
  rw [show (onTheHeap (Value.ref C) && Value.builtin "BaseException.__getattribute__" == Value.builtin "object.__getattribute__") = false from by rw [show (Value.builtin "BaseException.__getattribute__" == Value.builtin "object.__getattribute__") = false from by decide +kernel, Bool.and_false], if_neg (by decide)]
  unfold getAttrByItsOwn
  refine wpAny_bind (L2.at (wpAny_bind (wpAny_attempt (wpAny_holding ?_))))
  unfold callGetattribute
  rw [show (expr && onTheHeap (Value.builtin "BaseException.__getattribute__")) = false from Bool.and_false _, if_neg (by decide)]
  unfold boundAndCalled
  rw [bga_bind]
  refine wpAny_bind (wpAny_pure (wpAny_call (codeAny_mono h fun r s' z => ?_)))
  rcases r with e | (v | _ | _ | _) <;> first | exact z | exact z.elim

theorem exc_get {v : Value} (X : K.In s.heap) (I : InstAt s.heap x ox C od) (hg : excGet K C = true) (hf : findObj K C od name = some (.value v)) (hv : handedIn v = true)
    (h : Q v { s with toks := s.toks + 1 }) : wpAny (model prog w) A (getAttr (.ref x) name expr) Q E s := by
  refine exc_get_open X I hg hf ?_
  simp only [excGet, Bool.and_eq_true, beq_iff_eq] at hg
  obtain ⟨⟨h1, h2⟩, h3⟩ := hg
  obtain ⟨hh, g, d, t, os⟩ := s
  have L0 := I.type (M := model prog w)
  have L3 := looks_subIn (M := model prog w) X h3
  have L1 := looks_find (M := model prog w) X I hf
  refine codeAny_call_builtin bga_plain PySem.F.entry_bexc_ga (@check_slot (model prog w) _ _ ⟨hh, g, d, t + 1, os⟩ "BaseException.__getattribute__" "BaseException" "__getattribute__" (.ref x) [.str name t] [] _ bga_kind bga_split (L0.andThen L3) (PySem.F.args_bexc_ga _ _) ?_)
  unfold Builtin.«object.__getattribute__»
  refine wpAny_bind (wpAny_pure (wpAny_bind (wpAny_pure (wpAny_bind (L0.at (wpAny_bind (L1.at ?_)))))))
  refine wpAny_pure ?_
  show wpAny _ _ (handedOut v) _ _ _
  rw [handedOut_of hv]; exact wpAny_pure h

theorem exc_get_args {d : Option Addr} (X : K.In s.heap) (I : InstAt s.heap x (excObj C d ta) C od) (hg : excGet K C = true) (hf : findObj K C od "args" = some (.bind (.builtin "getset_descriptor.__get__") (.builtin "BaseException.args")))
    (h : Q (.ref ta) { s with toks := s.toks + 1 }) : wpAny (model prog w) A (getAttr (.ref x) "args" expr) Q E s := by
  refine exc_get_open X I hg hf ?_
  simp only [excGet, Bool.and_eq_true, beq_iff_eq] at hg
  obtain ⟨⟨h1, h2⟩, h3⟩ := hg
  obtain ⟨hh, g, dr, t, os⟩ := s
  have L0 := I.type (M := model prog w)
  have L3 := looks_subIn (M := model prog w) X h3
  have L1 := looks_find (M := model prog w) X I hf
  have hx := I.at_
  refine codeAny_call_builtin bga_plain PySem.F.entry_bexc_ga (@check_slot (model prog w) _ _ ⟨hh, g, dr, t + 1, os⟩ "BaseException.__getattribute__" "BaseException" "__getattribute__" (.ref x) [.str "args" t] [] _ bga_kind bga_split (L0.andThen L3) (PySem.F.args_bexc_ga _ _) ?_)
  unfold Builtin.«object.__getattribute__»
  refine wpAny_bind (wpAny_pure (wpAny_bind (wpAny_pure (wpAny_bind (L0.at (wpAny_bind (L1.at ?_)))))))
  show wpAny _ _ (holding [.builtin "BaseException.args"] (call (.builtin "getset_descriptor.__get__") [.builtin "BaseException.args", .ref x, .ref C]) >>= ret) _ _ _
  refine wpAny_bind (wpAny_holding (wpAny_call ?_))
  have hT5 : (⟨hh, g, dr, t + 1, os⟩ : Shared).TypeIs (.builtin "BaseException.args") "getset_descriptor" := PySem.F.typeOf_bexc_args
  refine codeAny_call_builtin PySem.F.slot_gs_get.plain PySem.F.entry_gs_get (PySem.F.slot_gs_get.check _ _ _ _ _ _ _ _ hT5 (PySem.F.args_gs_get _ _ _) ?_)
  have L4 : Looks (model prog w) hh (isSubtype (.ref C) (.type (".".intercalate ("BaseException.args".cutAt '.').dropLast))) true := by rw [PySem.F.owner_bexc_args]; exact L3
  dsimp only at L0
  unfold Builtin.«getset_descriptor.__get__» descrGet descrGetArgs
  dsimp only
  repeat lk
  refine ⟨Code.quiet_builtin _ (by decide +kernel), codeAny_builtin PySem.F.entry_bexc_args ?_⟩
  unfold Builtin.«BaseException.args»
  refine wpAny_bind (wpAny_field hx rfl (x := .ref ta) rfl ?_)
  exact wpAny_pure (wpAny_pure (wpAny_pure h))
end
end Mine
end
section
open PySem PySem.W PySem.Calls PyProof.Rows
set_option Elab.async false
set_option maxRecDepth 100000
set_option maxHeartbeats 4000000
namespace Mine
def AD (d u : Nat) : Around := { handled := none, depth := d, frames := none, guards := some [], units := u }
theorem weaken {α : Type} {M : Model} {A : Around} {d u : Nat} {t : Sem α} {Q : α → Shared → Prop} {E : Value → Shared → Prop} {s : Shared} (h1 : A.handled = none) (hg : A.guards = some []) (h2 : A.depth ≤ d) (h3 : A.units ≤ u) (h : wpAny M (AD d u) t Q E s) : wpAny M A t Q E s :=
  fun Γ p hΓ => h Γ p ⟨hΓ.1.trans h1, Nat.le_trans hΓ.2.1 h2, (by intro _ e; cases e), (by intro g e; exact hΓ.2.2.2.1 g (hg.trans e)), Nat.le_trans hΓ.2.2.2.2 h3⟩
abbrev Grow (h h' : Heap) : Prop := ∀ b o, h.get? b = some o → h'.get? b = some o
section
variable {prog : Program} {w : World} {A : Around} {K : Frag} {s : Shared} {h₀ : Heap} {L : Addr} {m : Str → Option Value} {news : List (Addr × Obj)} {R : Result → Shared → Prop}
  {name qual : Str} {params : Arguments} {body : List Stmt} {scope : Scope} {dV kV doc pm cdv ct oc : Value} {an od : Option Addr} {osl : Array (Option Value)} {f : Addr} {args : Args} {binds : List (Str × Value)}
/-- enter a def: what stands in h₀ is kept, the objects of the ledger may change -/
theorem enter_new (G : Grow h₀ s.heap) (hz : h₀.objs.size ≤ s.heap.objs.size) (X₀ : K.In h₀) (hlim : h₀.NoLimit) (N : ∀ p ∈ news, s.heap.get? p.1 = some p.2 ∧ h₀.get? p.1 = none)
    (ho : K.lookup f = some ⟨oc, od, .func (fnOf name qual params body scope dV kV doc pm an cdv ct), osl⟩) (hcd : codeIn K cdv qual = true) (hroom : A.depth < recursionLimit)
    (hbind : BindsTo s (fnOf name qual params body scope dV kV doc pm an cdv ct) args binds) (hloc : ∀ y ∈ binds, scope.names.lookup y.1 = some .local)
    (hco : scope.isCoroutine = false) (hgen : scope.isGenerator = false) (hk : scope.kind = .function) (hcell : ∀ x ∈ scope.names, x.2 ≠ .cell)
    (h : ∀ L' h₁ tk, Fr h₀ L' h₁ (fun y => binds.reverse.lookup y) → News h₀ L' h₁ news → (∀ p ∈ news, p.1 < L') → 
      wpAny (model prog w) (A.deeper (envOf qual scope L' f cdv)) (execs body (envOf qual scope L' f cdv)) (fun fl s' => R (.ok (.ret (match fl with | .ret v => v | _ => .none))) s') (fun _ _ => False)
        { s with heap := h₁, toks := tk }) : codeAny (model prog w) A (.call (.ref f) args) R s := by
  have X := X₀.keeps G
  refine codeAny_call_def (fd := fnOf name qual params body scope dV kV doc pm an cdv ct) (body := body) (binds := binds) hroom (X _ _ ho) rfl (hlim.keeps G) (codeRec_of X hcd) rfl hbind hcell hloc (fun h₁ hns hk₁ => ?_) hco hgen hk
  refine wpAny_mono (h s.heap.objs.size h₁ _ ⟨hns, fun b o e => hk₁ b o (G b o e), hz⟩ (fun p hp => ⟨hk₁ _ _ (N p hp).1, Nat.ne_of_lt (Heap.lt_size (N p hp).1), (N p hp).2⟩) fun p hp => Heap.lt_size (N p hp).1) (fun _ _ z => z) fun _ _ z => z.elim

/-- the way back into a frame -/
def BackIn (h₀ : Heap) (L : Addr) (m : Str → Option Value) (oL : Obj) (R : Result → Shared → Prop) (v : Value) (s' : Shared) : Prop := (∀ h', h'.get? L = some oL → Grow h₀ h' → Fr h₀ L h' m) → R (.ok (.ret v)) s'
def AllNe (d : Nat) : List (Addr × Obj) → Prop
  | [] => True
  | p :: r => @Ne Nat p.1 d ∧ AllNe d r
theorem allNe_of {d : Addr} : ∀ {l : List (Addr × Obj)}, (∀ p ∈ l, p.1 ≠ d) → AllNe d l
  | [], _ => trivial
  | p :: _, h => ⟨h p (.head _), allNe_of fun q hq => h q (.tail _ hq)⟩
inductive Drop (L : Addr) (oL : Obj) : List (Addr × Obj) → List (Addr × Obj) → Prop
  | head {r} : (∀ p ∈ r, p.1 ≠ L) → Drop L oL ((L, oL) :: r) r
  | tail {p r r'} : p.1 ≠ L → Drop L oL r r' → Drop L oL (p :: r) (p :: r')
theorem Drop.mem {L : Addr} {oL : Obj} : ∀ {l l' : List (Addr × Obj)}, Drop L oL l l' → (L, oL) ∈ l
  | _, _, .head _ => .head _
  | _, _, .tail _ r => .tail _ r.mem
theorem Drop.sub {L : Addr} {oL : Obj} : ∀ {l l' : List (Addr × Obj)}, Drop L oL l l' → ∀ p ∈ l', p ∈ l ∧ p.1 ≠ L
  | _, _, .head h, p, hp => ⟨.tail _ hp, h p hp⟩
  | _, _, .tail h r, p, hp => by
    rcases List.mem_cons.mp hp with rfl | hp
    · exact ⟨.head _, h⟩
    · exact ⟨.tail _ (r.sub p hp).1, (r.sub p hp).2⟩
theorem back_ {oL : Obj} {L' : Addr} {m' : Str → Option Value} {news' news'' : List (Addr × Obj)} {v : Value} {s' : Shared} (F' : Fr h₀ L' s'.heap m') (N' : News h₀ L' s'.heap news') (D : Drop L oL news' news'')
    (h : Fr h₀ L s'.heap m → News h₀ L s'.heap news'' → R (.ok (.ret v)) s') : BackIn h₀ L m oL R v s' := fun hb =>
  h (hb _ (N' _ D.mem).1 F'.keep) fun p hp => ⟨(N' p (D.sub p hp).1).1, (D.sub p hp).2, (N' p (D.sub p hp).1).2.2⟩

/-- enter a def from within a frame: the frame's own object stands in the ledger -/
theorem enter_in (F : Fr h₀ L s.heap m) (X₀ : K.In h₀) (N : News h₀ L s.heap news) (hlim : h₀.NoLimit)
    (ho : K.lookup f = some ⟨oc, od, .func (fnOf name qual params body scope dV kV doc pm an cdv ct), osl⟩) (hcd : codeIn K cdv qual = true) (hroom : A.depth < recursionLimit)
    (hbind : BindsTo s (fnOf name qual params body scope dV kV doc pm an cdv ct) args binds) (hloc : ∀ y ∈ binds, scope.names.lookup y.1 = some .local)
    (hco : scope.isCoroutine = false) (hgen : scope.isGenerator = false) (hk : scope.kind = .function) (hcell : ∀ x ∈ scope.names, x.2 ≠ .cell)
    (h : ∀ oL L' h₁ tk, Fr h₀ L' h₁ (fun y => binds.reverse.lookup y) → News h₀ L' h₁ ((L, oL) :: news) → (∀ p ∈ (L, oL) :: news, p.1 < L') → (∀ p ∈ news, p.1 ≠ L) →
      wpAny (model prog w) (A.deeper (envOf qual scope L' f cdv)) (execs body (envOf qual scope L' f cdv)) (fun fl s' => BackIn h₀ L m oL R (match fl with | .ret v => v | _ => .none) s') (fun _ _ => False)
        { s with heap := h₁, toks := tk }) : codeAny (model prog w) A (.call (.ref f) args) R s := by
  obtain ⟨oL, es, ep, hL, r⟩ := F.ns
  have hn : h₀.get? L = none := by
    cases q : h₀.get? L with
    | none => rfl
    | some o => exact absurd (Heap.lt_size q) (Nat.not_lt.mpr F.above)
  refine enter_new (news := (L, oL) :: news) F.keep (Nat.le_of_lt (Nat.lt_of_le_of_lt F.above (Heap.lt_size hL))) X₀ hlim (fun p hp => ?_) ho hcd hroom hbind hloc hco hgen hk hcell fun L' h₁ tk F' N' l => wpAny_mono (h oL L' h₁ tk F' N' l fun p hp => (N p hp).2.1) (fun _ _ z => z fun h' e g => ⟨⟨oL, es, ep, e, r⟩, g, F.above⟩) fun _ _ z => z
  rcases List.mem_cons.mp hp with rfl | hp
  · exact ⟨hL, hn⟩
  · exact ⟨(N p hp).1, (N p hp).2.2⟩
end
end Mine
end
section
open PySem PySem.W PySem.Calls PyProof.Rows
set_option Elab.async false
set_option maxRecDepth 100000
set_option maxHeartbeats 4000000
namespace Mine
/-- what is written of v, in any heap that holds what hb holds -/
structure Reprs (prog : Program) (w : World) (hb : Heap) (v : Value) (t : Str) : Prop where
  call : ∀ (A : Around) (s : Shared) (Q E : Value → Shared → Prop), A.handled = none → A.guards = some [] → A.depth ≤ 800 → A.units ≤ 4000 → Grow hb s.heap →
    (∀ h' u tk, Grow s.heap h' → Q (.str t u) { s with heap := h', toks := tk }) → wpAny (model prog w) A (PySem.call (.builtin "repr") [v]) Q E s
  obj : ∀ (A : Around) (s : Shared) (Q E : Value → Shared → Prop), A.handled = none → A.guards = some [] → A.depth ≤ 800 → A.units ≤ 4000 → Grow hb s.heap →
    (∀ h' u tk, Grow s.heap h' → Q (.str t u) { s with heap := h', toks := tk }) → wpAny (model prog w) A (pyReprObj v) Q E s
  short : t.length ≤ 1000000
theorem Reprs.mono {prog : Program} {w : World} {hb h' : Heap} {v : Value} {t : Str} (r : Reprs prog w hb v t) (g : Grow hb h') : Reprs prog w h' v t :=
  ⟨fun A s Q E a b c d e f => r.call A s Q E a b c d (fun x o q => e x o (g x o q)) f, fun A s Q E a b c d e f => r.obj A s Q E a b c d (fun x o q => e x o (g x o q)) f, r.short⟩
def Fields (od : Obj) (fs : List (Str × Value)) : Prop := ∀ p ∈ fs, lookIn p.1 od = some (some p.2)
/-- an error, newly made -/
structure ErrNew (h h' : Heap) (C e d ta : Addr) (od : Obj) (msg : Str) (u : Tok) (fs : List (Str × Value)) (args : List Value) : Prop where
  he : h'.get? e = some (excObj C (some d) ta)
  hd : h'.get? d = some od
  ht : h'.get? ta = some (tupObj args)
  ne : h.get? e = none
  nd : h.get? d = none
  nt : h.get? ta = none
  hm : lookIn "message" od = some (some (.str msg u))
  hf : Fields od fs
/-- what a line number is told as -/
structure Lines (prog : Program) (w : World) (n : Int) (t : Str) : Prop where
  call : ∀ (A : Around) (s : Shared) (Q E : Value → Shared → Prop) (tk nt : Tok), A.handled = none → A.guards = some [] → A.depth ≤ 800 → A.units ≤ 4000 →
    (∀ h' u k, Grow s.heap h' → Q (.str t u) { s with heap := h', toks := k }) → wpAny (model prog w) A (PySem.call (.builtin "str.format") [.str (Str.ofString " [line {0:2d}]") tk, .int n nt]) Q E s
  short : t.length ≤ 1000
section
variable {prog : Program} {w : World} {A : Around} {E : Value → Shared → Prop} {s : Shared} {h₀ : Heap} {L : Addr} {m : Str → Option Value} {news : List (Addr × Obj)} {v : Value} {t : Str} {Q : Value → Shared → Prop}
theorem fr_grow {h h' : Heap} (F : Fr h₀ L h m) (g : Grow h h') : Fr h₀ L h' m := ⟨F.ns.keeps g, fun b o e => g b o (F.keep b o e), F.above⟩
theorem news_grow {h h' : Heap} (N : News h₀ L h news) (g : Grow h h') : News h₀ L h' news := fun p hp => ⟨g _ _ (N p hp).1, (N p hp).2⟩
theorem repr_use (r : Reprs prog w h₀ v t) (F : Fr h₀ L s.heap m) (N : News h₀ L s.heap news) (h1 : A.handled = none) (h2 : A.guards = some []) (h3 : A.depth ≤ 800) (h4 : A.units ≤ 4000)
    (h : ∀ h' u tk, Fr h₀ L h' m → News h₀ L h' news → Q (.str t u) { s with heap := h', toks := tk }) : wpAny (model prog w) A (call (.builtin "repr") [v]) Q E s :=
  r.call A s Q E h1 h2 h3 h4 F.keep fun h' u tk g => h h' u tk (fr_grow F g) (news_grow N g)
theorem isTup_of {h : Heap} {a : Addr} {vs : List Value} (N : News h₀ L h news) (hm : (a, ({ cls := .type "tuple", data := .seq vs.toArray } : Obj)) ∈ news) : h.IsTuple a vs.toArray := ⟨_, (N _ hm).1, rfl, _, rfl⟩
theorem meta_Exception : typeOf (.type "Exception") = pure (.type "type") := by first | rfl | kernel_rfl
theorem line_use {n : Int} {tk nt : Tok} (r : Lines prog w n t) (F : Fr h₀ L s.heap m) (N : News h₀ L s.heap news) (h1 : A.handled = none) (h2 : A.guards = some []) (h3 : A.depth ≤ 800) (h4 : A.units ≤ 4000)
    (h : ∀ h' u tk, Fr h₀ L h' m → News h₀ L h' news → Q (.str t u) { s with heap := h', toks := tk }) : wpAny (model prog w) A (call (.builtin "str.format") [.str (Str.ofString " [line {0:2d}]") tk, .int n nt]) Q E s :=
  r.call A s Q E tk nt h1 h2 h3 h4 fun h' u tk g => h h' u tk (fr_grow F g) (news_grow N g)
theorem isNot_none (hv : v ≠ .none) (q : Q (.bool true) s) : wpAny (model prog w) A (compareOp .IsNot v .none) Q E s :=
  isnot_none_gen (by rw [show (v == Value.none) = false from beq_eq_false_iff_ne.mpr hv]; exact q)
theorem err_close {h' : Heap} {C e d ta : Addr} {od : Obj} {msg : Str} {u : Tok} {fs : List (Str × Value)} {args : List Value} (N : News h₀ L h' news) (h1 : (e, excObj C (some d) ta) ∈ news) (h2 : (d, od) ∈ news) (h3 : (ta, tupObj args) ∈ news)
    (hm : lookIn "message" od = some (some (.str msg u))) (hf : Fields od fs) : ErrNew h₀ h' C e d ta od msg u fs args := ⟨(N _ h1).1, (N _ h2).1, (N _ h3).1, (N _ h1).2.2, (N _ h2).2.2, (N _ h3).2.2, hm, hf⟩
theorem made_grow (h : Heap) (o o' : Obj) : Grow h ((h.push o).push o') := fun _ _ e => Heap.get?_push_of_some _ (Heap.get?_push_of_some _ e)
theorem made_news (h : Heap) (C : Addr) (vs : List Value) : ∀ p ∈ [(h.objs.size + 1, excObj C none h.objs.size), (h.objs.size, tupObj vs)], ((h.push (tupObj vs)).push (excObj C none h.objs.size)).get? p.1 = some p.2 ∧ h.get? p.1 = none := by
  intro p hp
  rcases List.mem_cons.mp hp with rfl | hp
  · exact ⟨by heap_get, Heap.get?_none_of_le (Nat.le_succ _)⟩
  · rcases List.mem_singleton.mp hp with rfl
    exact ⟨Heap.get?_push_of_some _ (Heap.get?_push_size _ rfl), Heap.get?_none_of_le (Nat.le_refl _)⟩
end
end Mine
end
section
open PySem PySem.W PySem.Calls PyProof.Rows
set_option Elab.async false
set_option maxRecDepth 100000
set_option maxHeartbeats 4000000
namespace Mine
section
variable {prog : Program} {w : World} {A : Around} {E : Value → Shared → Prop} {s : Shared} {h₀ : Heap} {L : Addr} {m : Str → Option Value} {news : List (Addr × Obj)} {v : Value} {t : Str} {Q : Value → Shared → Prop} {K : Frag}
theorem reprs_str {hb : Heap} {x : Str} {t : Tok} (hl : (reprText x).length ≤ 1000000) : Reprs prog w hb (.str x t) (reprText x) where
  call := fun A s Q E _ _ _ _ _ h => P.repr_of_str (h s.heap _ _ fun _ _ e => e) (by rw [sizeLine_eq]; omega)
  obj := fun A s Q E _ _ _ _ _ h => wpAny_pyReprObj_str (h s.heap _ _ fun _ _ e => e) (by rw [sizeLine_eq]; omega)
  short := hl

/-- an error that a contract makes, taken into a frame's ledger -/
theorem err_use {f : Value} {vs : List Value} {kw : List (Str × Value)} {C : Addr} {msg : Str} {fs : List (Str × Value)} {args : List Value}
    (c : ∀ Q E, (∀ h' tk e d ta od u, Grow s.heap h' → ErrNew s.heap h' C e d ta od msg u fs args → Q (.ref e) { s with heap := h', toks := tk }) → wpAny (model prog w) (AD 600 2000) (call f vs kw) Q E s)
    (F : Fr h₀ L s.heap m) (N : News h₀ L s.heap news) (h1 : A.handled = none) (h2 : A.guards = some []) (h3 : A.depth ≤ 600) (h4 : A.units ≤ 2000)
    (h : ∀ h' tk e d ta od u, Fr h₀ L h' m → News h₀ L h' ((e, excObj C (some d) ta) :: (d, od) :: (ta, tupObj args) :: news) → AllNe e news → AllNe d news → AllNe ta news → lookIn "message" od = some (some (.str msg u)) → Fields od fs → Q (.ref e) { s with heap := h', toks := tk }) :
    wpAny (model prog w) A (call f vs kw) Q E s := by
  refine weaken h1 h2 h3 h4 (c Q E fun h' tk e d ta od u g n => ?_)
  have hL : ∀ a, s.heap.get? a = none → a ≠ L := fun a ha z => by
    obtain ⟨o, _, _, ho, _⟩ := F.ns
    rw [z, ho] at ha; cases ha
  have h0 : ∀ a, s.heap.get? a = none → h₀.get? a = none := fun a ha => by
    cases q : h₀.get? a with
    | none => rfl
    | some o => rw [F.keep _ _ q] at ha; cases ha
  have hne : ∀ a, s.heap.get? a = none → AllNe a news := fun a ha => allNe_of fun p hp z => by
    have := (N p hp).1
    rw [z, ha] at this; cases this
  refine h h' tk e d ta od u (fr_grow F g) ?_ (hne _ n.ne) (hne _ n.nd) (hne _ n.nt) n.hm n.hf
  intro p hp
  rcases List.mem_cons.mp hp with rfl | hp
  · exact ⟨n.he, hL _ n.ne, h0 _ n.ne⟩
  rcases List.mem_cons.mp hp with rfl | hp
  · exact ⟨n.hd, hL _ n.nd, h0 _ n.nd⟩
  rcases List.mem_cons.mp hp with rfl | hp
  · exact ⟨n.ht, hL _ n.nt, h0 _ n.nt⟩
  · exact news_grow N g p hp

/-- a field of an error in the ledger -/
theorem err_get {expr : Bool} {C x d ta : Addr} {od : Obj} {name : Str} {attr : Option Value} (F : Fr h₀ L s.heap m) (X₀ : K.In h₀) (N : News h₀ L s.heap news) (h1 : (x, excObj C (some d) ta) ∈ news) (h2 : (d, od) ∈ news) (hg : excGet K C = true)
    (hh : hasDictIn K C = true) (ha : findIn K (.ref C) name = some attr) (hn : noGet K attr = true) (hl : lookIn name od = some (some v)) (hv : handedIn v = true) (h : Q v { s with toks := s.toks + 1 }) :
    wpAny (model prog w) A (getAttr (.ref x) name expr) Q E s :=
  exc_get (X₀.keeps F.keep) (InstAt.of_exc N h1 h2) hg (findObj_own hh ha hn hl) hv h
theorem err_args {expr : Bool} {C x d ta : Addr} {od : Obj} (F : Fr h₀ L s.heap m) (X₀ : K.In h₀) (N : News h₀ L s.heap news) (h1 : (x, excObj C (some d) ta) ∈ news) (h2 : (d, od) ∈ news) (hg : excGet K C = true)
    (hc : (clsIn K C).isSome = true) (ha : findIn K (.ref C) "args" = some (some (.builtin "BaseException.args"))) (hs : specialIn K (.builtin "BaseException.args") "__get__" = some (some (.builtin "getset_descriptor.__get__"))) (ht : takesIn K (.builtin "BaseException.args") = some true)
    (h : Q (.ref ta) { s with toks := s.toks + 1 }) : wpAny (model prog w) A (getAttr (.ref x) "args" expr) Q E s :=
  exc_get_args (X₀.keeps F.keep) (InstAt.of_exc N h1 h2) hg (findObj_data hc ha hs ht) h
end
end Mine
end
section
open PySem PySem.W PySem.Calls PyProof.Rows
set_option Elab.async false
namespace Mine
theorem updF_to {d : Addr} {o : Obj} : ∀ {l : List (Addr × Obj)} {g : Obj → List (Addr × Obj)}, UpdF d o l g → ∀ o', Upd d o o' l (g o')
  | _, _, .head h, _ => .head h
  | _, _, .tail h r, o' => .tail h (updF_to r o')
theorem updF_on {d : Addr} {o : Obj} : ∀ {l : List (Addr × Obj)} {g : Obj → List (Addr × Obj)}, UpdF d o l g → ∀ o' o'', Upd d o' o'' (g o') (g o'')
  | _, _, .head h, _, _ => .head h
  | _, _, .tail h r, o', o'' => .tail h (updF_on r o' o'')
theorem updF_mem {d : Addr} {o : Obj} : ∀ {l : List (Addr × Obj)} {g : Obj → List (Addr × Obj)}, UpdF d o l g → (d, o) ∈ l ∧ ∀ o', (d, o') ∈ g o' ∧ ∀ p ∈ g o', p.1 ∈ l.map (·.1)
  | _, _, .head h => ⟨.head _, fun o' => ⟨.head _, fun p hp => by
      rcases List.mem_cons.mp hp with rfl | hp
      · exact .head _
      · exact .tail _ (List.mem_map_of_mem hp)⟩⟩
  | _, _, .tail h r => ⟨.tail _ (updF_mem r).1, fun o' => ⟨.tail _ ((updF_mem r).2 o').1, fun p hp => by
      rcases List.mem_cons.mp hp with rfl | hp
      · exact .head _
      · exact .tail _ (((updF_mem r).2 o').2 p hp)⟩⟩
theorem updF_lt {d b : Addr} {o o' : Obj} {l : List (Addr × Obj)} {g : Obj → List (Addr × Obj)} (U : UpdF d o l g) (h : ∀ p ∈ l, p.1 < b) : ∀ p ∈ g o', p.1 < b := fun p hp => by
  obtain ⟨q, hq, e⟩ := List.mem_map.mp (((updF_mem U).2 o').2 p hp)
  exact e ▸ h q hq
theorem updF_ne {d b : Addr} {o o' : Obj} {l : List (Addr × Obj)} {g : Obj → List (Addr × Obj)} (U : UpdF d o l g) (h : ∀ p ∈ l, p.1 ≠ b) : ∀ p ∈ g o', p.1 ≠ b := fun p hp => by
  obtain ⟨q, hq, e⟩ := List.mem_map.mp (((updF_mem U).2 o').2 p hp)
  exact e ▸ h q hq
end Mine
namespace Mine
def G3 (_ : Array GenState) (_ : Drawn) (_ : OsState) : Prop := True
theorem tok_gen {M : Model} {α : Type} {A : Around} {t : Sem α} {Q : α → Shared → Prop} {E : Value → Shared → Prop} {h : Heap} {g : Array GenState} {d : Drawn} {o : OsState} {tk : Nat} (_ : G3 g d o) (H : ∀ tk, wpAny M A t Q E ⟨h, g, d, tk, o⟩) : wpAny M A t Q E ⟨h, g, d, tk, o⟩ := H tk
end Mine
end
section
open PySem PySem.W PySem.Calls PyProof.Rows Builtin Builtin.Str Builtin.Int Builtin.Float
set_option Elab.async false
set_option maxRecDepth 100000
set_option maxHeartbeats 4000000
namespace Mine
theorem ifno {M : Model} {A : Around} {E : Value → Shared → Prop} {s : Shared} {α : Type} {c : Prop} {d : Decidable c} {a b : Sem α} {Q : α → Shared → Prop} (h : ¬ c) (k : wpAny M A b Q E s) : wpAny M A (@ite _ c d a b) Q E s := by rw [if_neg h]; exact k
def numDigits (n : Int) : List Nat := (if n < 0 then [45] else []) ++ (Nat.toDigits 10 n.natAbs).map Char.toNat
/-- a number, two signs wide at least -/
def fig2 (n : Int) : PySem.Str := ⟨(List.replicate (2 - (numDigits n).length) 32 ++ numDigits n).toArray⟩
theorem spec2d : parseFormatSpec (PySem.Str.ofString "2d").cps.toList "int" 62 = .ok { align := 62, width := some 2, type := some 100 } := by rfl
theorem text2d (a : Int) : intSpecText { align := 62, width := some 2, type := some 100 } a = fig2 a := by
  unfold intSpecText intField' fig2 numDigits
  have hne : (Nat.toDigits 10 a.natAbs).map (fun c => (if (100 : Nat) == 88 then c.toUpper else c).toNat) = (Nat.toDigits 10 a.natAbs).map Char.toNat := rfl
  rw [hne]
  have h1 := tDigits_len_ge 10 a.natAbs
  have he : ((Nat.toDigits 10 a.natAbs).map Char.toNat).isEmpty = false := by
    cases h : Nat.toDigits 10 a.natAbs with
    | nil => rw [h] at h1; simp at h1
    | cons _ _ => rfl
  by_cases hn : a < 0
  · simp [hn, he]
  · simp [hn, he]
theorem fmt2d {a : Int} {t : Tok} (hd : a.natAbs.log2 < 1920) (hl : (fig2 a).length ≤ sizeLine) (u : Tok) : Meets («int.__format__» ⟨[.int a t, .str (PySem.Str.ofString "2d") u], []⟩) (fun _ R s => ∀ t' k, R (.ok (.ret (.str (fig2 a) t'))) { s with toks := k }) := by
  apply KPc.meets_of
  intro _ _ _ _ _ _ _
  unfold Builtin.«int.__format__»
  refine wpAny_bind (wpAny_of_eq (a := (_, _)) rfl ?_)
  refine wpAny_bind (wpAny_of_eq (a := _) rfl ?_)
  kxf_if
  refine wpAny_bind (wpAny_typeNameOf (T := "str") (typeIs_str _ _ _) (by decide) fun _ => ?_)
  refine wpAny_bind (wpAny_of_eq (a := some _) rfl ?_)
  kxf_if
  kxf_if
  refine wpAny_bind (wpAny_typeNameOfCut_int ?_)
  rw [spec2d]
  refine wpAny_ite (KPc.ite_yes (by decide +kernel) ?_)
  refine wpAny_bind (wpAny_of_eq (PySem.overDigitLimit_small hd) ?_)
  show wpAny _ _ (retStr _) _ _ _
  refine KXf.ret_text (T := fig2 a) ?e ?l ?h
  case h => assumption
  case e => (
    rw [← text2d a]
    unfold intSpecText
    rw [show (if ({ align := 62, width := some 2, type := some 100 } : FormatSpec).alt = true then _ else []) = ([] : List Nat) from if_neg (by decide)]
    generalize e1 : (Nat.toDigits 10 a.natAbs).map _ = ds
    rw [show (Nat.toDigits 10 a.natAbs).map (fun c => (if (100 : Nat) == 88 then c.toUpper else c).toNat) = ds from e1]
    cases decide (a < 0) <;> cases ds <;> rfl)
  case l => refine Nat.le_trans (Nat.le_of_eq (congrArg PySem.Str.length (a₂ := fig2 a) ?_)) hl; (
    rw [← text2d a]
    unfold intSpecText
    rw [show (if ({ align := 62, width := some 2, type := some 100 } : FormatSpec).alt = true then _ else []) = ([] : List Nat) from if_neg (by decide)]
    generalize e1 : (Nat.toDigits 10 a.natAbs).map _ = ds
    rw [show (Nat.toDigits 10 a.natAbs).map (fun c => (if (100 : Nat) == 88 then c.toUpper else c).toNat) = ds from e1]
    cases decide (a < 0) <;> cases ds <;> rfl)
theorem formatOf_2d {prog : Program} {w : World} {A : Around} {E : Value → Shared → Prop} {s : Shared} {n : Int} {u : Tok} {X : PySem.Str} {Q : Value → Shared → Prop} (hX : X = PySem.Str.ofString "2d") (hd : n.natAbs.log2 < 1920) (hl : (fig2 n).length ≤ sizeLine)
    (h : ∀ t' k, Q (.str (fig2 n) t') { s with toks := k }) : wpAny (model prog w) A (PySem.Builtin.Str.formatOf (.int n u) X) Q E s := by
  subst hX
  unfold PySem.Builtin.Str.formatOf
  refine wpAny_ite (KPc.ite_no Bool.false_ne_true ?_)
  refine wpAny_bind (wpAny_mkStr ?_ (by decide))
  refine wpAny_bind (m := callSpecial? (.int n u) (PySem.Str.ofString "__format__") [.str (PySem.Str.ofString "2d") s.toks]) (wpAny_callSpecial?_slot (name := PySem.Str.ofString "__format__") (typeIs_int _ n u) F.slot_int_format
    (call_meets F.slot_int_format (typeIs_int _ n u) F.entry_int_format (F.args_int_format_2 _ _) (fmt2d hd hl _) fun t' k => ?_))
  refine wpAny_bind (wpAny_of_eq (a := some (fig2 n)) rfl ?_)
  refine wpAny_ite (KPc.ite_no Bool.false_ne_true ?_)
  exact wpAny_pure (h _ _)
theorem field_man {prog : Program} {w : World} {A : Around} {E : Value → Shared → Prop} {s : Shared} {id : String} {a : Array Value} {byName : PySem.Str → Sem Value} {v : Value} {Q : Value × Numbering → Shared → Prop} {X : List Nat} (hX : X = [48]) (ha : a[0]? = some v)
    (h : Q (v, .manual) s) : wpAny (model prog w) A (fieldObject id (some a) byName X .unset) Q E s := by
  subst hX
  unfold fieldObject
  refine wpAny_bind (wpAny_of_eq (a := some 0) rfl ?_)
  refine wpAny_bind (wpAny_of_eq (a := (some 0, .manual)) rfl ?_)
  simp only [ha, pure_bind]
  rw [KPc.range_list]
  exact wpAny_bind (wpAny_pure (wpAny_pure h))
def lineText (n : Int) : PySem.Str := (PySem.Str.ofString " [line " ++ fig2 n) ++ PySem.Str.ofString "]"
theorem line_meets {n : Int} {tk nt : Tok} (hd : n.natAbs.log2 < 1920) (hl : (fig2 n).length ≤ 900) : Meets («str.format» ⟨[.str (PySem.Str.ofString " [line {0:2d}]") tk, .int n nt], []⟩) (fun _ R s => ∀ t' k, R (.ok (.ret (.str (lineText n) t'))) { s with toks := k }) := by
  apply KPc.meets_of
  intro _ _ _ _ _ _ _
  unfold Builtin.«str.format»
  refine wpAny_bind (wpAny_of_eq (a := (_, _, _)) rfl ?_)
  refine wpAny_bind ?_
  unfold Builtin.Str.buildString
  refine wpAny_bind ?_
  rw [KPc.range_list]
  refine KFm.start ?_
  intro _ _
  refine KPc.turn ?_
  kpc_if
  kpc_check
  refine wpAny_bind (field_man rfl rfl ?_)
  refine wpAny_bind (wpAny_holding (wpAny_of_eq (a := _) rfl ?_))
  kpc_if
  refine wpAny_bind (wpAny_pure ?_)
  refine wpAny_bind (wpAny_holding (formatOf_2d (by rfl) hd (by rw [sizeLine_eq]; omega) ?_)); intro _ _
  refine wpAny_bind (wpAny_of_eq (a := some _) rfl ?_)
  refine wpAny_pure ?_
  refine KFm.after_field (K := 900) (by kpc_g) (by kpc_text) (by kpc_obj) hl (by kpc_obj) (by kfm_cat2) (by kfm_rest) ?_
  intro _ _
  refine KPc.turn ?_
  kpc_if
  kpc_check
  kfm_lit
  refine KPc.turn ?_
  kpc_if
  kfm_close
end Mine
end
section
open PySem PySem.W PySem.Calls PyProof.Rows
set_option Elab.async false
set_option maxRecDepth 100000
set_option maxHeartbeats 4000000
namespace Mine
theorem lines_of {prog : Program} {w : World} {n : Int} (hd : n.natAbs.log2 < 1920) (hl : (fig2 n).length ≤ 900) : Lines prog w n (lineText n) where
  call := fun A s Q E tk nt _ _ _ _ h => KFm.call_k rfl (KFm.args_2 _ _) (line_meets hd hl) fun t' k => h s.heap t' k fun _ _ e => e
  short := by
    have h1 : (PySem.Str.ofString " [line ").length = 7 := by decide +kernel
    have h2 : (PySem.Str.ofString "]").length = 1 := by decide +kernel
    simp only [lineText, PySem.Str.length_append]
    omega
end Mine
end
section
open PySem PySem.W PySem.Calls PyProof.Rows
set_option Elab.async false
set_option maxRecDepth 100000
set_option maxHeartbeats 4000000
namespace Mine
section
variable {prog : Program} {w : World} {A : Around} {E : Value → Shared → Prop} {s : Shared} {h₀ : Heap} {L : Addr} {m : Str → Option Value} {news : List (Addr × Obj)} {v : Value} {t : Str} {Q : Value → Shared → Prop} {K : Frag}
/-- a field of an error that stood ahead of the frame -/
theorem err_get0 {expr : Bool} {C x d ta : Addr} {od : Obj} {name : Str} {attr : Option Value} (F : Fr h₀ L s.heap m) (X₀ : K.In h₀) (h1 : h₀.get? x = some (excObj C (some d) ta)) (h2 : h₀.get? d = some od) (hl : lookIn name od = some (some v)) (hg : excGet K C = true)
    (hh : hasDictIn K C = true) (ha : findIn K (.ref C) name = some attr) (hn : noGet K attr = true) (hv : handedIn v = true) (h : Q v { s with toks := s.toks + 1 }) :
    wpAny (model prog w) A (getAttr (.ref x) name expr) Q E s :=
  exc_get (X₀.keeps F.keep) ⟨F.keep _ _ h1, rfl, rfl, F.keep _ _ h2⟩ hg (findObj_own hh ha hn hl) hv h
/-- str of an error of the ledger -/
theorem err_str {C x d ta f : Addr} {od : Obj} {msg : Str} {u : Tok} (F : Fr h₀ L s.heap m) (X₀ : K.In h₀) (N : News h₀ L s.heap news) (h1 : (x, excObj C (some d) ta) ∈ news) (h2 : (d, od) ∈ news) (hm : lookIn "message" od = some (some (.str msg u)))
    (c : ∀ Q E, s.heap.get? x = some (excObj C (some d) ta) → s.heap.get? d = some od → lookIn "message" od = some (some (.str msg u)) → K.In s.heap → (∀ h' tk, Grow s.heap h' → Q (.str msg u) { s with heap := h', toks := tk }) → wpAny (model prog w) (AD 610 2100) (call (.ref f) [.ref x]) Q E s)
    (hs : findIn K (.ref C) "__str__" = some (some (.ref f))) (hf : isFn K (.ref f) = true) (hu : A.in1.in1.units < cLine) (a1 : A.in1.in1.handled = none) (a2 : A.in1.in1.guards = some []) (a3 : A.in1.in1.depth ≤ 610) (a4 : A.in1.in1.units ≤ 2100)
    (h : ∀ h' tk, Fr h₀ L h' m → News h₀ L h' news → Q (.str msg u) { s with heap := h', toks := tk }) : wpAny (model prog w) A (call (.type "str") [.ref x]) Q E s :=
  kso_call hu (X₀.keeps F.keep) (InstAt.of_exc N h1 h2) hs hf (weaken a1 a2 a3 a4 (c (StrBack Q) E (N _ h1).1 (N _ h2).1 hm (X₀.keeps F.keep) fun h' tk g => h h' tk (fr_grow F g) (news_grow N g)))
/-- a contract that gives a text back, used from a frame -/
theorem text_use {f : Value} {vs : List Value} {kw : List (Str × Value)} {x : Str}
    (c : ∀ Q E, (∀ h' tk u, Grow s.heap h' → Q (.str x u) { s with heap := h', toks := tk }) → wpAny (model prog w) (AD 600 2000) (call f vs kw) Q E s)
    (F : Fr h₀ L s.heap m) (N : News h₀ L s.heap news) (h1 : A.handled = none) (h2 : A.guards = some []) (h3 : A.depth ≤ 600) (h4 : A.units ≤ 2000)
    (h : ∀ h' tk u, Fr h₀ L h' m → News h₀ L h' news → Q (.str x u) { s with heap := h', toks := tk }) : wpAny (model prog w) A (call f vs kw) Q E s :=
  weaken h1 h2 h3 h4 (c Q E fun h' tk u g => h h' tk u (fr_grow F g) (news_grow N g))
end
/-- one frame name changes, in one way or another -/
def Joined (h₀ : Heap) (L : Addr) (m : Str → Option Value) (news : List (Addr × Obj)) (y : Str) (P : Value → Prop) (s : Shared) (fl : Flow) (s' : Shared) : Prop :=
  fl = .next ∧ ∃ h' tk v, s' = { s with heap := h', toks := tk } ∧ P v ∧ Fr h₀ L h' (fun z => if z = y then some v else m z) ∧ News h₀ L h' news
def JoinedV (h₀ : Heap) (L : Addr) (m : Str → Option Value) (news : List (Addr × Obj)) (P : Value → Prop) (s : Shared) (v : Value) (s' : Shared) : Prop :=
  P v ∧ ∃ h' tk, s' = { s with heap := h', toks := tk } ∧ Fr h₀ L h' m ∧ News h₀ L h' news
section
variable {prog : Program} {w : World} {A : Around} {E : Value → Shared → Prop} {s : Shared} {h₀ : Heap} {L : Addr} {m : Str → Option Value} {news : List (Addr × Obj)} {M : Model}
theorem join_ {t : Sem Flow} {Q : Flow → Shared → Prop} (y : Str) (P : Value → Prop) (F : Fr h₀ L s.heap m) (N : News h₀ L s.heap news) (h1 : wpAny M A t (Joined h₀ L m news y P s) E s)
    (h2 : ∀ h' tk v, P v → Fr h₀ L h' (fun z => if z = y then some v else m z) → News h₀ L h' news → Q .next { s with heap := h', toks := tk }) : wpAny M A t Q E s :=
  wpAny_mono h1 (fun _ _ ⟨e, h', tk, v, e', p, F', N'⟩ => by subst e; subst e'; exact h2 h' tk v p F' N') fun _ _ z => z
theorem joinV_ {t : Sem Value} {Q : Value → Shared → Prop} (P : Value → Prop) (F : Fr h₀ L s.heap m) (N : News h₀ L s.heap news) (h1 : wpAny M A t (JoinedV h₀ L m news P s) E s)
    (h2 : ∀ v h' tk, P v → Fr h₀ L h' m → News h₀ L h' news → Q v { s with heap := h', toks := tk }) : wpAny M A t Q E s :=
  wpAny_mono h1 (fun _ _ ⟨p, h', tk, e', F', N'⟩ => by subst e'; exact h2 _ h' tk p F' N') fun _ _ z => z
theorem joined_set {y : Str} {P : Value → Prop} {h' : Heap} {tk : Nat} {v : Value} (p : P v) (F : Fr h₀ L h' (fun z => if z = y then some v else m z)) (N : News h₀ L h' news) : Joined h₀ L m news y P s .next { s with heap := h', toks := tk } := ⟨rfl, h', tk, v, rfl, p, F, N⟩
theorem joined_kept {y : Str} {P : Value → Prop} {h' : Heap} {tk : Nat} {v : Value} (p : P v) (hm : m y = some v) (F : Fr h₀ L h' m) (N : News h₀ L h' news) : Joined h₀ L m news y P s .next { s with heap := h', toks := tk } :=
  ⟨rfl, h', tk, v, rfl, p, by
    have e : (fun z => if z = y then some v else m z) = m := by
      funext z
      by_cases hz : z = y
      · rw [if_pos hz, hz, hm]
      · rw [if_neg hz]
    rw [e]; exact F, N⟩
theorem joinedV_ {P : Value → Prop} {h' : Heap} {tk : Nat} {v : Value} {news' : List (Addr × Obj)} (p : P v) (F : Fr h₀ L h' m) (N : News h₀ L h' news') (hs : ∀ q ∈ news, q ∈ news') : JoinedV h₀ L m news P s v { s with heap := h', toks := tk } := ⟨p, h', tk, rfl, F, fun q hq => N q (hs q hq)⟩
end
end Mine
end
section
open PySem PySem.W PySem.Calls PyProof.Rows
set_option Elab.async false
set_option maxRecDepth 100000
set_option maxHeartbeats 4000000
namespace Mine
section
variable {prog : Program} {w : World} {A : Around} {E : Value → Shared → Prop} {s : Shared}
/-- an item of a list that was just written, by an index within it: one of its items -/
theorem item_tmp {value slice : Expr} {l : Addr} {items : List Value} {k : Int} {u : Tok} {Q : Value → Shared → Prop} (hl : s.heap.IsList l items.toArray) (h0 : 0 ≤ k) (hk : k < (items.length : Int)) (hz : items.length ≤ 1000)
    (h : ∀ x ∈ items, Q x s) (hs : subscripted slice false (.ref l) (.int k u) = operate [.ref l, .int k u] (getItem (.ref l) (.int k u)) := by with_unfolding_all rfl) :
    wpAny (model prog w) A (subscriptTail value slice (.ref l) (.int k u)) Q E s := by
  have hT := hl.typeIs
  have hkn : k.toNat < items.length := by omega
  unfold subscriptTail
  refine wpAny_bind ?_
  rw [getitemInPython_of_ne hT.not_modules]
  refine wpAny_bind (wpAny_specialOf hT slot_list_getitem.lookup ?_)
  have fin : wpAny (model prog w) A (subscripted slice false (.ref l) (.int k u)) (fun r s₃ => wpAny (model prog w) A (letTemporaryGo value (.ref l) r >>= fun _ => pure r) Q E s₃) E s := by
    rw [hs]
    refine wpAny_operating (wpAny_getItem_list hl h0 (by omega) (x := items[k.toNat]) (by simp [hkn]) ?_)
    exact wpAny_bind (wpAny_letTemporaryGo (wpAny_pure (h _ (List.getElem_mem hkn))))
  first
    | exact wpAny_pure (wpAny_bind fin)
    | exact wpAny_bind (wpAny_pure (wpAny_bind fin))
    | exact wpAny_bind fin
end
end Mine
end
section
open PySem PySem.W PySem.Calls PyProof.Rows Builtin Builtin.Str
set_option Elab.async false
set_option maxRecDepth 100000
set_option maxHeartbeats 4000000
namespace Mine
/-- how repr writes v, in any heap that holds what hb holds: by the built-in, by a format's conversion, by a percent sign -/
structure Rep (prog : Program) (w : World) (hb : Heap) (v : Value) (t : PySem.Str) : Prop where
  call : ∀ (A : Around) (s : Shared) (Q E : Value → Shared → Prop), A.handled = none → A.guards = some [] → A.depth ≤ 800 → A.units ≤ 4000 → Grow hb s.heap →
    (∀ h' u tk, Grow s.heap h' → Q (.str t u) { s with heap := h', toks := tk }) → wpAny (model prog w) A (PySem.call (.builtin "repr") [v]) Q E s
  obj : ∀ (A : Around) (s : Shared) (Q E : Value → Shared → Prop), A.handled = none → A.guards = some [] → A.depth ≤ 800 → A.units ≤ 4000 → Grow hb s.heap →
    (∀ h' u tk, Grow s.heap h' → Q (.str t u) { s with heap := h', toks := tk }) → wpAny (model prog w) A (pyReprObj v) Q E s
  under : ∀ (base : Nat), base ≤ 2000000 → ∀ (A : Around) (s : Shared) (Q E : Value → Shared → Prop), A.handled = none → A.guards = some [] → A.depth ≤ 800 → A.units ≤ 4000 → Grow hb s.heap →
    (∀ h' u tk, Grow s.heap h' → Q (.str t u) { s with heap := h', toks := tk }) → wpAny (model prog w) A (pyReprObjUnder base v) Q E s
  short : t.length ≤ 1000000
theorem Rep.old {prog : Program} {w : World} {hb : Heap} {v : Value} {t : PySem.Str} (r : Rep prog w hb v t) : Reprs prog w hb v t := ⟨r.call, r.obj, r.short⟩
theorem Grow.refl (h : Heap) : Grow h h := fun _ _ e => e
theorem Grow.trans {h h' h'' : Heap} (a : Grow h h') (b : Grow h' h'') : Grow h h'' := fun x o e => b x o (a x o e)
theorem Rep.mono {prog : Program} {w : World} {hb h' : Heap} {v : Value} {t : PySem.Str} (r : Rep prog w hb v t) (g : Grow hb h') : Rep prog w h' v t :=
  ⟨fun A s Q E a b c d e f => r.call A s Q E a b c d (g.trans e) f, fun A s Q E a b c d e f => r.obj A s Q E a b c d (g.trans e) f, fun n hn A s Q E a b c d e f => r.under n hn A s Q E a b c d (g.trans e) f, r.short⟩
theorem under_leaf {M : Model} {A : Around} {E : Value → Shared → Prop} {s : Shared} {b : Nat} {v : Value} {T id : String} {Q : Value → Shared → Prop} (hT : s.TypeIs v T) (h : SlotG T (PySem.Str.ofString "__repr__") id)
    (htw : reprUnder? (.builtin id) = none) (hu : A.units < cLine)
    (hc : wpAny M A (call (.builtin id) [v]) (fun v s' => (∃ x u, v = .str x u) ∧ Q v s') E s) : wpAny M A (pyReprObjUnder b v) Q E s := by
  unfold pyReprObjUnder pyReprObjBy
  refine wpAny_bind (wpAny_cRoomFor hu ?_)
  refine wpAny_bind (wpAny_specialOf (name := PySem.Str.ofString "__repr__") hT h.lookup ?_)
  refine wpAny_bind (wpAny_callSpecialIfBoundBy?_slotG (name := PySem.Str.ofString "__repr__") hT h ?_)
  simp only [htw]
  refine wpAny_mono hc (fun v s' hv => ?_) fun _ _ x => x
  obtain ⟨⟨x, u, rfl⟩, hq⟩ := hv
  exact wpAny_bind (wpAny_isInstance (T := "str") (b := true) rfl isSubtype_str_str (wpAny_pure hq))
theorem rep_str {prog : Program} {w : World} {hb : Heap} {x : PySem.Str} {t : Tok} (hl : (reprText x).length ≤ 1000000) : Rep prog w hb (.str x t) (reprText x) where
  call := fun A s Q E _ _ _ _ _ h => P.repr_of_str (h s.heap _ _ fun _ _ e => e) (by rw [sizeLine_eq]; omega)
  obj := fun A s Q E _ _ _ _ _ h => wpAny_pyReprObj_str (h s.heap _ _ fun _ _ e => e) (by rw [sizeLine_eq]; omega)
  under := fun n _ A s Q E _ _ _ _ _ h => by
    exact under_leaf (typeIs_str s x t) F.slot_str_repr.toG rfl (Nat.lt_of_le_of_lt (by assumption) (Nat.le_of_ble_eq_true rfl)) (call_gives F.slot_str_repr (typeIs_str s x t) F.entry_str_repr (F.args_str_repr_1 _) (gives_str_repr x t) ⟨by rw [sizeLine_eq]; omega, ⟨_, _, rfl⟩, h s.heap _ _ fun _ _ e => e⟩)
  short := hl
section
variable {prog : Program} {w : World} {A : Around} {E : Value → Shared → Prop} {s : Shared} {h₀ : Heap} {L : Addr} {m : PySem.Str → Option Value} {news : List (Addr × Obj)} {v v2 v3 v4 : Value} {t t2 t3 t4 : PySem.Str}
theorem tup_grow {h h' : Heap} {b : Addr} {its : Array Value} (g : Grow h h') (x : IsTup h b its) : IsTup h' b its := by
  obtain ⟨o, a, c⟩ := x
  exact ⟨o, g _ _ a, c⟩
/-- what a call on the way asks of its surroundings -/
def Room (A : Around) : Prop := A.handled = none ∧ A.guards = some [] ∧ A.depth ≤ 790 ∧ A.units ≤ 3900
def RSpec (hb : Heap) (T : PySem.Str) (P : Heap → Prop) : PySem.Spec := fun A R s => Room A ∧ Grow hb s.heap ∧ P s.heap ∧ ∀ h' t' k, Grow s.heap h' → R (.ok (.ret (.str T t'))) { s with heap := h', toks := k }
theorem meets_rep {q : Sem Fin} {T : PySem.Str} {hb : Heap} {P : Heap → Prop}
    (h : ∀ (A : Around) (s : Shared) (Q : Fin → Shared → Prop) (E : Value → Shared → Prop), A.handled = none → A.guards = some [] → A.depth ≤ 790 → A.units ≤ 3910 → Grow hb s.heap → P s.heap → (∀ h' t' k, Grow s.heap h' → Q (.done (.ret (.str T t'))) { s with heap := h', toks := k }) → wpAny (model prog w) A q Q E s) :
    MeetsIn prog w q (RSpec hb T P) := fun A R s hS =>
  wpAny_mono (h A.in1 s (fun fin s' => ∃ v, fin = .done (.ret v) ∧ R (.ok (.ret v)) s') (fun e s' => R (.error e) s') hS.1.1 hS.1.2.1 hS.1.2.2.1 (Nat.le_trans (Nat.succ_le_succ hS.1.2.2.2) (by decide)) hS.2.1 hS.2.2.1 fun h' t' k g => ⟨_, rfl, hS.2.2.2 h' t' k g⟩)
    (fun fin s' h' => by obtain ⟨v, rfl, hv⟩ := h'; exact hv) fun _ _ x => x
end
end Mine
end
section
open PySem PySem.W PySem.Calls PyProof.Rows Builtin Builtin.Str
set_option Elab.async false
set_option maxRecDepth 100000
set_option maxHeartbeats 4000000
namespace Mine
theorem args_5 (a b c d e : Value) : argsOk "str.format" ⟨[a, b, c, d, e], []⟩ := by
  unfold argsOk; rw [signature?_of (id := "str.format") (n := ['t', 'a', 'm', 'r', 'o', 'f']) (o := ['r', 't', 's']) (by kernel_rfl) F.owner_str]; kernel_rfl
section
variable {prog : Program} {w : World} {A : Around} {E : Value → Shared → Prop} {s : Shared} {v v2 v3 v4 : Value} {t t2 t3 t4 : PySem.Str}
theorem fmtM_meets {hb : Heap} {tk : Tok} (r1 : Rep prog w hb v t) (r2 : Rep prog w hb v2 t2) (r3 : Rep prog w hb v3 t3) (r4 : Rep prog w hb v4 t4) :
    MeetsIn prog w («str.format» ⟨[.str (PySem.Str.ofString "Bad value substitution: option {!r} in section {!r} contains an interpolation key {!r} which is not a valid option name. Raw value: {!r}") tk, v, v2, v3, v4], []⟩) (RSpec hb (PySem.Str.ofString "Bad value substitution: option " ++ t ++ PySem.Str.ofString " in section " ++ t2 ++ PySem.Str.ofString " contains an interpolation key " ++ t3 ++ PySem.Str.ofString " which is not a valid option name. Raw value: " ++ t4) (fun _ => True)) := by
  apply meets_rep
  intro A s Q E a1 a2 a3 a4 g ht hQ
  unfold Builtin.«str.format»
  refine wpAny_bind (wpAny_of_eq (a := (_, _, _)) rfl ?_)
  refine wpAny_bind ?_
  unfold Builtin.Str.buildString
  refine wpAny_bind ?_
  rw [KPc.range_list]
  refine KFm.start ?_
  intro _ _
  refine KPc.turn ?_; kpc_if; kpc_check
  refine wpAny_bind (KFm.field_auto (by kfm_num) (by rfl) ?_)
  refine wpAny_bind (wpAny_holding ?_)
  refine r1.obj _ _ _ _ a1 a2 (Nat.le_trans a3 (by decide)) (Nat.le_trans a4 (by decide)) (g) fun h1 u1 tk1 g1 => ?_
  kpc_if
  refine wpAny_bind (wpAny_pure ?_)
  refine wpAny_bind (wpAny_holding (wpAny_of_eq (KFm.formatOf_str _ _) ?_))
  refine wpAny_bind (wpAny_of_eq (a := some _) rfl ?_)
  refine wpAny_pure ?_
  refine KFm.after_field (by kpc_g) (by kpc_text) (by kpc_obj) r1.short (by kpc_obj) (by kfm_cat2) (by kfm_rest) ?_
  intro _ _
  refine KPc.turn ?_; kpc_if; kpc_check
  refine wpAny_bind (KFm.field_auto (by kfm_num) (by rfl) ?_)
  refine wpAny_bind (wpAny_holding ?_)
  refine r2.obj _ _ _ _ a1 a2 (Nat.le_trans a3 (by decide)) (Nat.le_trans a4 (by decide)) (g.trans g1) fun h2 u2 tk2 g2 => ?_
  kpc_if
  refine wpAny_bind (wpAny_pure ?_)
  refine wpAny_bind (wpAny_holding (wpAny_of_eq (KFm.formatOf_str _ _) ?_))
  refine wpAny_bind (wpAny_of_eq (a := some _) rfl ?_)
  refine wpAny_pure ?_
  refine KFm.after_field (by kpc_g) (by kpc_text) (by kpc_obj) r2.short (by kpc_obj) (by kfm_cat2) (by kfm_rest) ?_
  intro _ _
  refine KPc.turn ?_; kpc_if; kpc_check
  refine wpAny_bind (KFm.field_auto (by kfm_num) (by rfl) ?_)
  refine wpAny_bind (wpAny_holding ?_)
  refine r3.obj _ _ _ _ a1 a2 (Nat.le_trans a3 (by decide)) (Nat.le_trans a4 (by decide)) ((g.trans g1).trans g2) fun h3 u3 tk3 g3 => ?_
  kpc_if
  refine wpAny_bind (wpAny_pure ?_)
  refine wpAny_bind (wpAny_holding (wpAny_of_eq (KFm.formatOf_str _ _) ?_))
  refine wpAny_bind (wpAny_of_eq (a := some _) rfl ?_)
  refine wpAny_pure ?_
  refine KFm.after_field (by kpc_g) (by kpc_text) (by kpc_obj) r3.short (by kpc_obj) (by kfm_cat2) (by kfm_rest) ?_
  intro _ _
  refine KPc.turn ?_; kpc_if; kpc_check
  refine wpAny_bind (KFm.field_auto (by kfm_num) (by rfl) ?_)
  refine wpAny_bind (wpAny_holding ?_)
  refine r4.obj _ _ _ _ a1 a2 (Nat.le_trans a3 (by decide)) (Nat.le_trans a4 (by decide)) (((g.trans g1).trans g2).trans g3) fun h4 u4 tk4 g4 => ?_
  kpc_if
  refine wpAny_bind (wpAny_pure ?_)
  refine wpAny_bind (wpAny_holding (wpAny_of_eq (KFm.formatOf_str _ _) ?_))
  refine wpAny_bind (wpAny_of_eq (a := some _) rfl ?_)
  refine wpAny_pure ?_
  refine KFm.after_field (by kpc_g) (by kpc_text) (by kpc_obj) r4.short (by kpc_obj) (by kfm_cat2) (by kfm_rest) ?_
  intro _ _
  refine KPc.turn ?_; kpc_if
  refine wpAny_pure ?_
  refine wpAny_pure ?_
  refine KPc.finish_ok (by kpc_g) (by decide +kernel) rfl ?_
  exact fun t' k => hQ _ _ _ (((g1.trans g2).trans g3).trans g4)
theorem fmtD_meets {hb : Heap} {tk t10 : Tok} (r1 : Rep prog w hb v t) (r2 : Rep prog w hb v2 t2) (r4 : Rep prog w hb v4 t4) :
    MeetsIn prog w («str.format» ⟨[.str (PySem.Str.ofString "Recursion limit exceeded in value substitution: option {!r} in section {!r} contains an interpolation key which cannot be substituted in {} steps. Raw value: {!r}") tk, v, v2, .int 10 t10, v4], []⟩) (RSpec hb (PySem.Str.ofString "Recursion limit exceeded in value substitution: option " ++ t ++ PySem.Str.ofString " in section " ++ t2 ++ PySem.Str.ofString " contains an interpolation key which cannot be substituted in " ++ PySem.Str.ofString "10" ++ PySem.Str.ofString " steps. Raw value: " ++ t4) (fun _ => True)) := by
  apply meets_rep
  intro A s Q E a1 a2 a3 a4 g ht hQ
  unfold Builtin.«str.format»
  refine wpAny_bind (wpAny_of_eq (a := (_, _, _)) rfl ?_)
  refine wpAny_bind ?_
  unfold Builtin.Str.buildString
  refine wpAny_bind ?_
  rw [KPc.range_list]
  refine KFm.start ?_
  intro _ _
  refine KPc.turn ?_; kpc_if; kpc_check
  refine wpAny_bind (KFm.field_auto (by kfm_num) (by rfl) ?_)
  refine wpAny_bind (wpAny_holding ?_)
  refine r1.obj _ _ _ _ a1 a2 (Nat.le_trans a3 (by decide)) (Nat.le_trans a4 (by decide)) (g) fun h1 u1 tk1 g1 => ?_
  kpc_if
  refine wpAny_bind (wpAny_pure ?_)
  refine wpAny_bind (wpAny_holding (wpAny_of_eq (KFm.formatOf_str _ _) ?_))
  refine wpAny_bind (wpAny_of_eq (a := some _) rfl ?_)
  refine wpAny_pure ?_
  refine KFm.after_field (by kpc_g) (by kpc_text) (by kpc_obj) r1.short (by kpc_obj) (by kfm_cat2) (by kfm_rest) ?_
  intro _ _
  refine KPc.turn ?_; kpc_if; kpc_check
  refine wpAny_bind (KFm.field_auto (by kfm_num) (by rfl) ?_)
  refine wpAny_bind (wpAny_holding ?_)
  refine r2.obj _ _ _ _ a1 a2 (Nat.le_trans a3 (by decide)) (Nat.le_trans a4 (by decide)) (g.trans g1) fun h2 u2 tk2 g2 => ?_
  kpc_if
  refine wpAny_bind (wpAny_pure ?_)
  refine wpAny_bind (wpAny_holding (wpAny_of_eq (KFm.formatOf_str _ _) ?_))
  refine wpAny_bind (wpAny_of_eq (a := some _) rfl ?_)
  refine wpAny_pure ?_
  refine KFm.after_field (by kpc_g) (by kpc_text) (by kpc_obj) r2.short (by kpc_obj) (by kfm_cat2) (by kfm_rest) ?_
  intro _ _
  refine KPc.turn ?_; kpc_if; kpc_check
  refine wpAny_bind (KFm.field_auto (by kfm_num) (by rfl) ?_)
  refine wpAny_bind (wpAny_holding (wpAny_of_eq (a := _) rfl ?_))
  kpc_if
  refine wpAny_bind (wpAny_pure ?_)
  refine wpAny_bind (wpAny_holding (KFm.formatOf_int (by decide +kernel) ?_)); intro _ _
  refine wpAny_bind (wpAny_of_eq (a := some _) rfl ?_)
  refine wpAny_pure ?_
  refine KFm.after_field (K := 100) (by kpc_g) (by kpc_text) (by kpc_obj) (by decide +kernel) (by kpc_obj) (by kfm_cat2) (by kfm_rest) ?_
  intro _ _
  refine KPc.turn ?_; kpc_if; kpc_check
  refine wpAny_bind (KFm.field_auto (by kfm_num) (by rfl) ?_)
  refine wpAny_bind (wpAny_holding ?_)
  refine r4.obj _ _ _ _ a1 a2 (Nat.le_trans a3 (by decide)) (Nat.le_trans a4 (by decide)) (((g.trans g1).trans g2)) fun h4 u4 tk4 g4 => ?_
  kpc_if
  refine wpAny_bind (wpAny_pure ?_)
  refine wpAny_bind (wpAny_holding (wpAny_of_eq (KFm.formatOf_str _ _) ?_))
  refine wpAny_bind (wpAny_of_eq (a := some _) rfl ?_)
  refine wpAny_pure ?_
  refine KFm.after_field (by kpc_g) (by kpc_text) (by kpc_obj) r4.short (by kpc_obj) (by kfm_cat2) (by kfm_rest) ?_
  intro _ _
  refine KPc.turn ?_; kpc_if
  refine wpAny_pure ?_
  refine wpAny_pure ?_
  refine KPc.finish_ok (by kpc_g) (by decide +kernel) rfl ?_
  exact fun t' k => hQ _ _ _ (((g1.trans g2).trans g4))
theorem fmt_rep {hb : Heap} {X T : PySem.Str} {tk : Tok} {vs : List Value} {Q : Value → Shared → Prop} (hR : Room A) (g : Grow hb s.heap) (ha : argsOk "str.format" ⟨.str X tk :: vs, []⟩)
    (hm : MeetsIn prog w («str.format» ⟨.str X tk :: vs, []⟩) (RSpec hb T (fun _ => True)))
    (h : ∀ h' t' k, Grow s.heap h' → Q (.str T t') { s with heap := h', toks := k }) : wpAny (model prog w) A (call (.builtin "str.format") (.str X tk :: vs)) Q E s :=
  call_meetsIn F.slot_str_format_m (typeIs_str s X tk) F.entry_str_format_m ha hm ⟨hR, g, trivial, h⟩
end
end Mine
end
section
open PySem PySem.W PySem.Calls PyProof.Rows Builtin Builtin.Str
set_option Elab.async false
set_option maxRecDepth 100000
set_option maxHeartbeats 4000000
namespace Mine
section
variable {prog : Program} {w : World} {A : Around} {E : Value → Shared → Prop} {s : Shared} {h₀ : Heap} {L : Addr} {m : PySem.Str → Option Value} {news : List (Addr × Obj)} {Q : Value → Shared → Prop} {X T : PySem.Str} {tk : Tok}
theorem reprObj_use {v : Value} {t : PySem.Str} (r : Rep prog w h₀ v t) (F : Fr h₀ L s.heap m) (N : News h₀ L s.heap news) (h1 : A.handled = none) (h2 : A.guards = some []) (h3 : A.depth ≤ 800) (h4 : A.units ≤ 4000)
    (h : ∀ h' u tk, Fr h₀ L h' m → News h₀ L h' news → Q (.str t u) { s with heap := h', toks := tk }) : wpAny (model prog w) A (pyReprObj v) Q E s :=
  r.obj A s Q E h1 h2 h3 h4 F.keep fun h' u tk g => h h' u tk (fr_grow F g) (news_grow N g)
theorem fmt_use {vs : List Value} (F : Fr h₀ L s.heap m) (N : News h₀ L s.heap news) (hR : Room A) (ha : argsOk "str.format" ⟨.str X tk :: vs, []⟩)
    (hm : MeetsIn prog w («str.format» ⟨.str X tk :: vs, []⟩) (RSpec h₀ T (fun _ => True)))
    (h : ∀ h' u tk, Fr h₀ L h' m → News h₀ L h' news → Q (.str T u) { s with heap := h', toks := tk }) : wpAny (model prog w) A (call (.builtin "str.format") (.str X tk :: vs)) Q E s :=
  fmt_rep hR F.keep ha hm fun h' u k g => h h' u k (fr_grow F g) (news_grow N g)
end
end Mine
end
section
open PySem PySem.W PySem.Calls PyProof.Rows Builtin Builtin.List
set_option Elab.async false
set_option maxRecDepth 100000
set_option maxHeartbeats 4000000
namespace Mine
/-- how an item within a tuple or list is written -/
def RepI (prog : Program) (w : World) (hb : Heap) (v : Value) (t : PySem.Str) : Prop := ∀ (base : Nat), base + t.length ≤ sizeLine → ∀ (A : Around) (E : Value → Shared → Prop) (s : Shared) (Q : PySem.Str → Shared → Prop), A.handled = none → A.depth ≤ 850 → A.units ≤ 4200 → Grow hb s.heap →
  (∀ h' tk, Grow s.heap h' → Q t { s with heap := h', toks := tk }) → wpAny (model prog w) A (pyReprUnder base v) Q E s
section
variable {prog : Program} {w : World} {A : Around} {E : Value → Shared → Prop} {s : Shared} {K : Frag} {x C f : Addr} {ox : Obj} {od : Option Obj} {hb : Heap} {t : PySem.Str}
theorem repI_str {y : PySem.Str} {k : Tok} (hl : (reprText y).length ≤ 1000000) : RepI prog w hb (.str y k) (reprText y) := fun base hb A E s Q _ _ _ _ h =>
  ReprIs.str y k (by rw [sizeLine_eq]; omega) base hb A E s Q fun tk => h s.heap tk fun _ _ e => e
theorem RepI.mono {h' : Heap} {v : Value} (r : RepI prog w hb v t) (g : Grow hb h') : RepI prog w h' v t := fun base hl A E s Q a b c d e => r base hl A E s Q a b c (g.trans d) e
theorem by_K {last : Value → List Value → Sem Value} {M : Model} {Q : Value → Shared → Prop} (hu : A.units < cLine) (X : K.In s.heap) (I : InstAt s.heap x ox C od) (hs : findIn K (.ref C) "__repr__" = some (some (.ref f))) (hf : isFn K (.ref f) = true)
    (h : wpAny M A (last (.ref f) [.ref x]) (StrBack Q) E s) : wpAny M A (pyReprObjBy last (.ref x)) Q E s := by
  unfold pyReprObjBy
  refine wpAny_bind (wpAny_cRoomFor hu ?_)
  refine wpAny_bind (wpAny_bind (I.type.here ((looks_findIn X hs).here ?_)))
  show wpAny _ _ (if (some (Value.ref f)).isNone = true then _ else _) _ _ _
  rw [if_neg (by simp)]
  have key : wpAny M A (callSpecialIfBoundBy? last (.ref x) (PySem.Str.ofString "__repr__")) (fun r s' => ∃ y u, r = some (.str y u) ∧ Q (.str y u) s') E s := by
    simp only [callSpecialIfBoundBy?, bindSpecialIfBound?]
    refine wpAny_holding (wpAny_bind (wpAny_bind (wpAny_bind (I.type.here ((looks_findIn X hs).here ?_)))))
    refine wpAny_bind (wpAny_askSetting (wpAny_ite ?_))
    have fin : wpAny M A (last (.ref f) [.ref x] >>= fun v => pure (some v)) (fun r s' => ∃ y u, r = some (.str y u) ∧ Q (.str y u) s') E s := wpAny_bind (wpAny_mono h (fun v s' hv => wpAny_pure (by cases v <;> first | exact hv.elim | exact ⟨_, _, rfl, hv⟩)) fun _ _ e => e)
    split
    · exact wpAny_bind ((bind_fn X _ (beq_iff_eq.mp hf)).here (wpAny_pure (by exact fin)))
    · exact wpAny_tryCatch (wpAny_bind ((bind_fn X _ (beq_iff_eq.mp hf)).here (wpAny_pure (by exact fin))))
  refine wpAny_bind (wpAny_mono key (fun r s' hr => ?_) fun _ _ e => e)
  obtain ⟨y, u, rfl, hq⟩ := hr
  exact wpAny_bind (wpAny_isInstance (typeIs_str _ _ _) isSubtype_str_str (wpAny_pure hq))
/-- what the def __repr__ of a class gives for x, whatever stands around -/
def Tells (prog : Program) (w : World) (hb : Heap) (f x : Addr) (t : PySem.Str) : Prop := ∀ (A : Around) (s : Shared) (Q E : Value → Shared → Prop), A.handled = none → A.depth ≤ 880 → A.units ≤ 4400 → Grow hb s.heap →
  (∀ h' u tk, Grow s.heap h' → Q (.str t u) { s with heap := h', toks := tk }) → wpAny (model prog w) A (PySem.call (.ref f) [.ref x]) Q E s
theorem inst_grow {h h' : Heap} (I : InstAt h x ox C od) (g : Grow h h') : InstAt h' x ox C od := by
  obtain ⟨a, b, c, d⟩ := I
  refine ⟨g _ _ a, b, c, ?_⟩
  cases e : ox.dict with
  | none => rw [e] at d; cases od with
    | none => exact d
    | some o => exact d
  | some q => rw [e] at d; cases od with
    | none => exact d
    | some o => exact g _ _ d
theorem units_ok {n k : Nat} (h : n ≤ k) (hk : k < cLine) : n < cLine := Nat.lt_of_le_of_lt h hk
theorem rep_inst (X : K.In hb) (I : InstAt hb x ox C od) (hs : findIn K (.ref C) "__repr__" = some (some (.ref f))) (hf : isFn K (.ref f) = true) (c : Tells prog w hb f x t) (hl : t.length ≤ 1000000) : Rep prog w hb (.ref x) t where
  call := fun A s Q E a1 a2 a3 a4 g h => by
    refine Calls.call_function_entry PySem.F.kind_repr PySem.F.plain_repr PySem.F.entry_repr (PySem.F.args_repr1 _) ?_
    unfold Builtin.«repr»
    refine wpAny_bind (m := oneArg "repr" _) (wpAny_pure ?_)
    have X' := X.keeps g
    have I' := inst_grow I g
    refine wpAny_bind (wpAny_cRoomFor (units_ok (Nat.succ_le_succ a4) (by decide +kernel)) ?_)
    refine wpAny_bind (wpAny_bind (I'.type.here ((looks_findIn X' hs).here ?_)))
    show wpAny _ _ (if (some (Value.ref f)).isNone = true then _ else _) _ _ _
    rw [if_neg (by simp)]
    refine wpAny_bind (m := callSpecialIfBound? (.ref x) (PySem.Str.ofString "__repr__") _) (ifBound_K X' I' hs hf (c _ _ _ _ a1 (Nat.le_trans a3 (by decide)) (Nat.le_trans (Nat.succ_le_succ a4) (by decide)) g fun h' u tk g' => ?_))
    refine wpAny_bind (wpAny_isInstance (typeIs_str _ _ _) isSubtype_str_str ?_)
    exact wpAny_pure ⟨_, rfl, h h' u tk g'⟩
  obj := fun A s Q E a1 a2 a3 a4 g h => by
    rw [pyReprObj_eq_pyReprObjBy]
    exact by_K (units_ok a4 (by decide +kernel)) (X.keeps g) (inst_grow I g) hs hf (c _ _ _ _ a1 (Nat.le_trans a3 (by decide)) (Nat.le_trans a4 (by decide)) g h)
  under := fun n hn A s Q E a1 a2 a3 a4 g h => by
    unfold pyReprObjUnder
    exact by_K (units_ok a4 (by decide +kernel)) (X.keeps g) (inst_grow I g) hs hf (c _ _ _ _ a1 (Nat.le_trans a3 (by decide)) (Nat.le_trans a4 (by decide)) g h)
  short := hl
theorem repI_inst (X : K.In hb) (I : InstAt hb x ox C od) (hs : findIn K (.ref C) "__repr__" = some (some (.ref f))) (hf : isFn K (.ref f) = true) (c : Tells prog w hb f x t) : RepI prog w hb (.ref x) t := fun base hbs A E s Q a1 a3 a4 g h => by
  refine wpAny_pyReprUnder_ref (by omega) ?_
  unfold pyReprObjUnder
  exact by_K (units_ok a4 (by decide +kernel)) (X.keeps g) (inst_grow I g) hs hf (c _ _ _ _ a1 (Nat.le_trans a3 (by decide)) (Nat.le_trans a4 (by decide)) g fun h' u tk g' => ⟨_, _, rfl, h h' tk g'⟩)
/-- the items of a tuple, one by one -/
inductive RepAll (prog : Program) (w : World) (hb : Heap) : List Value → List PySem.Str → Prop
  | nil : RepAll prog w hb [] []
  | cons {v : Value} {t : PySem.Str} {l : List Value} {ts : List PySem.Str} : RepI prog w hb v t → RepAll prog w hb l ts → RepAll prog w hb (v :: l) (t :: ts)
theorem RepAll.len : ∀ {l : List Value} {ts : List PySem.Str}, RepAll prog w hb l ts → ts.length = l.length
  | _, _, .nil => rfl
  | _, _, .cons _ r => by simp [r.len]
theorem items_told (a1 : A.handled = none) (a3 : A.depth ≤ 850) (a4 : A.units ≤ 4200) : ∀ {l : List Value} {ts : List PySem.Str} (acc : Array PySem.Str) (n : Nat) (s : Shared) (Q : (Array PySem.Str × Nat) → Shared → Prop), RepAll prog w hb l ts → n + piled ts ≤ sizeLine → Grow hb s.heap →
    (∀ h' tk, Grow s.heap h' → Q (acc ++ ts.toArray, n + piled ts) { s with heap := h', toks := tk }) → wpAny (model prog w) A (forIn l (acc, n) tupBody) Q E s := by
  intro l ts acc n s Q r
  induction r generalizing acc n s Q with
  | nil =>
    intro _ _ h
    rw [List.forIn_nil]
    have := h s.heap s.toks (Grow.refl _)
    exact wpAny_pure (by simpa [piled] using this)
  | @cons v t l ts hv r ih =>
    intro hn g h
    have hp : piled (t :: ts) = (t.length + 2) + piled ts := piled_cons t ts
    rw [List.forIn_cons]
    refine wpAny_bind (wpAny_bind (hv (n + 1) (by omega) A E s _ a1 a3 a4 g fun h1 k1 g1 => wpAny_pure ?_))
    refine ih (acc.push t) (n + (t.length + 2)) _ Q (by omega) (g.trans g1) fun h2 k2 g2 => ?_
    have q := h h2 k2 (g1.trans g2)
    rw [show n + piled (t :: ts) = n + (t.length + 2) + piled ts by omega] at q
    simpa using q
theorem tup_own {a : Addr} {o : Obj} {its : Array Value} {n : Nat} {ts : List PySem.Str} (ha : hb.get? a = some o) (hd : o.data = .seq its n) (hT : RepAll prog w hb its.toList ts)
    {R : Result → Shared → Prop} {base : Nat} {id : String} {rest : List Value} (hcu : (A.under (.builtin id ⟨.ref a :: rest, []⟩)).units = A.units + 1)
    (a1 : A.handled = none) (a2 : A.guards = some []) (a3 : A.depth ≤ 800) (a4 : A.units ≤ 4100) (g : Grow hb s.heap)
    (hR : ∀ h' u tk, Grow s.heap h' → R (.ok (.ret (.str (tupleText ts) u))) { s with heap := h', toks := tk }) (hz : base + (tupleText ts).length ≤ sizeLine) (hh : (A.under (.builtin id ⟨.ref a :: rest, []⟩)).handled = A.handled) (hdp : (A.under (.builtin id ⟨.ref a :: rest, []⟩)).depth ≤ A.depth + 1) :
    wpOwn (model prog w) A (.builtin id ⟨.ref a :: rest, []⟩) (Builtin.tupleReprAt base ⟨[.ref a], []⟩) (fun fin s' => match fin with | .done f => R (.ok f) s' | .again c' => c'.quiet = true ∧ codeAny (model prog w) A c' R s') (fun e s' => R (.error e) s') s := by
  have hp := piled_le_tupleText ts
  have hlen : ts.length = its.size := by simpa using hT.len
  rw [tuple_repr_tree, tupleReprUnderWay_eq]
  refine wpOwn_bind (wpOwn_stackTailAny a2 (tupGuardF_off _) (tupGuardF_pos _) ?_)
  refine wpOwn_of_wpAny ?_
  show wpAny _ _ (tupleReprRest base (.ref a)) _ _ s
  unfold tupleReprRest Builtin.Tuple.tupleItemsOf
  refine wpAny_bind (wpAny_bind (wpAny_seqItems (g _ _ ha) hd (wpAny_pure ?_)))
  rw [← Array.forIn_toList]
  refine wpAny_bind (items_told (hh.trans a1) (by omega) (by rw [hcu]; omega) _ _ _ _ hT (by omega) g fun h' tk g' => ?_)
  refine wpAny_bind (wpAny_mkStr (wpAny_pure ?_) (by simpa [tupleText, hlen] using (by omega : (tupleText ts).length ≤ sizeLine)))
  have q := hR h' tk (tk + 1) g'
  simpa [tupleText, hlen] using q
theorem wt_tup (args : Args) : (Code.builtin "tuple.__repr__" args).weight = 1 := by kernel_rfl
theorem wt_tupU (args : Args) : (Code.builtin "tuple.__repr__.under" args).weight = 1 := by kernel_rfl
theorem dep_tup (A : Around) (args : Args) : (A.under (.builtin "tuple.__repr__" args)).depth ≤ A.depth + 1 := by
  show A.depth + Code.weight _ ≤ _
  rw [wt_tup]; omega
theorem dep_tupU (A : Around) (args : Args) : (A.under (.builtin "tuple.__repr__.under" args)).depth ≤ A.depth + 1 := by
  show A.depth + Code.weight _ ≤ _
  rw [wt_tupU]; omega
theorem rep_tup {a : Addr} {o : Obj} {its : Array Value} {n : Nat} {ts : List PySem.Str} (ha : hb.get? a = some o) (hc : o.cls = .type "tuple") (hd : o.data = .seq its n) (hT : RepAll prog w hb its.toList ts) (hl : (tupleText ts).length ≤ 1000000) : Rep prog w hb (.ref a) (tupleText ts) := by
  have hz := sizeLine_eq
  have direct : ∀ (A : Around) (s : Shared) (Q E : Value → Shared → Prop), A.handled = none → A.guards = some [] → A.depth ≤ 800 → A.units ≤ 4100 → Grow hb s.heap →
      (∀ h' u tk, Grow s.heap h' → Q (.str (tupleText ts) u) { s with heap := h', toks := tk }) → wpAny (model prog w) A (PySem.call (.builtin "tuple.__repr__") [.ref a]) Q E s := fun A s Q E a1 a2 a3 a4 g h =>
    wpAny_call (codeAny_call_builtin_own (Code.quiet_builtin _ (by decide +kernel)) F.entry_tuple_repr (F.slot_tuple_repr.check _ _ _ _ _ _ _ _ ⟨o, g _ _ ha, hc⟩ (F.args_tuple_repr_1 _)
      (tup_own (base := 0) (R := callEnd Q E) ha hd hT (units_under_tuple_repr _ _) a1 a2 a3 a4 g h (by omega) rfl (dep_tup _ _))))
  refine ⟨fun A s Q E a1 a2 a3 a4 g h => ?_, fun A s Q E a1 a2 a3 a4 g h => ?_, fun m hm A s Q E a1 a2 a3 a4 g h => ?_, hl⟩
  · have hTy : s.TypeIs (.ref a) "tuple" := ⟨o, g _ _ ha, hc⟩
    refine Calls.call_function_entry PySem.F.kind_repr PySem.F.plain_repr PySem.F.entry_repr (PySem.F.args_repr1 _) ?_
    unfold Builtin.«repr»
    refine wpAny_bind (m := oneArg "repr" _) (wpAny_pure ?_)
    refine wpAny_bind (wpAny_cRoomFor (units_ok (Nat.succ_le_succ a4) (by decide +kernel)) ?_)
    refine wpAny_bind (wpAny_specialOf (name := PySem.Str.ofString "__repr__") hTy F.slot_tuple_repr.lookup ?_)
    refine wpAny_bind (m := callSpecialIfBound? (.ref a) (PySem.Str.ofString "__repr__") _) (wpAny_callSpecialIfBound?_slotG (name := PySem.Str.ofString "__repr__") hTy F.slot_tuple_repr
      (direct _ _ _ _ a1 a2 a3 (Nat.le_trans (Nat.succ_le_succ a4) (by decide)) g fun h' u tk g' => ?_))
    exact wpAny_bind (wpAny_isInstance (T := "str") (b := true) rfl isSubtype_str_str (wpAny_pure ⟨_, rfl, h h' u tk g'⟩))
  · have hTy : s.TypeIs (.ref a) "tuple" := ⟨o, g _ _ ha, hc⟩
    unfold pyReprObj
    refine wpAny_bind (wpAny_cRoomFor (units_ok a4 (by decide +kernel)) ?_)
    refine wpAny_bind (wpAny_specialOf (name := PySem.Str.ofString "__repr__") hTy F.slot_tuple_repr.lookup ?_)
    refine wpAny_bind (m := callSpecialIfBound? (.ref a) (PySem.Str.ofString "__repr__")) (wpAny_callSpecialIfBound?_slotG (name := PySem.Str.ofString "__repr__") hTy F.slot_tuple_repr
      (direct _ _ _ _ a1 a2 a3 (Nat.le_trans a4 (by decide)) g fun h' u tk g' => ?_))
    exact wpAny_bind (wpAny_isInstance (T := "str") (b := true) rfl isSubtype_str_str (wpAny_pure (h h' u tk g')))
  · exact wpAny_pyReprObjUnder_twin (twin := "tuple.__repr__.under") ⟨o, g _ _ ha, hc⟩ F.slot_tuple_repr rfl (units_ok a4 (by decide +kernel))
      (call_twin_own (F.quiet_tuple_repr_under _) F.entry_tuple_repr_under F.check_tuple_repr_under ⟨o, g _ _ ha, hc⟩ F.slot_tuple_repr (F.args_tuple_repr_1 _)
        (tup_own (R := callEnd _ E) ha hd hT (units_under_tuple_repr_under _ _) a1 a2 a3 (Nat.le_trans a4 (by decide)) g (fun h' u tk g' => ⟨⟨_, _, rfl⟩, h h' u tk g'⟩) (by omega) rfl (dep_tupU _ _)))
end
end Mine
end
section
open PySem PySem.W PySem.Calls PyProof.Rows Builtin Builtin.List
set_option Elab.async false
set_option maxRecDepth 100000
set_option maxHeartbeats 4000000
namespace Mine
def partsObj (acc : Array Value) (c : Nat) : Obj := { cls := .type "list", dict := none, data := .seq acc c, slots := #[] }
theorem wt_loop (args : Args) : (Code.builtin "list.__repr__.loop" args).weight = 1 := by kernel_rfl
section
variable {prog : Program} {w : World} {A : Around} {E : Value → Shared → Prop} {s : Shared} {hb : Heap} {R : Result → Shared → Prop}
/-- one item of a list is written -/
theorem loop_item {a P : Addr} {its acc : Array Value} {na c i b : Nat} {v : Value} {t : PySem.Str} {oa : Obj} (hv : its[i]? = some v) (r : RepI prog w hb v t) (a1 : A.handled = none) (a3 : A.depth ≤ 800) (a4 : A.units ≤ 4100)
    (g : Grow hb s.heap) (hP0 : hb.get? P = none) (ha : hb.get? a = some oa) (hda : oa.data = .seq its na) (hP : s.heap.get? P = some (partsObj acc c)) (hbt : b + 1 + t.length ≤ sizeLine) (hac : acc.size ≤ 1000)
    (next : ∀ h' tk c', Grow hb h' → (∀ q o, q ≠ P → s.heap.get? q = some o → h'.get? q = some o) → h'.get? P = some (partsObj (acc.push (.str t tk)) c') →
      codeAny (model prog w) A (.builtin "list.__repr__.loop" ⟨[.ref a, rawInt ((i + 1 : Nat) : Int), .ref P, rawInt ((b + (t.length + 2) : Nat) : Int)], []⟩) R { s with heap := h', toks := tk + 1 }) :
    codeAny (model prog w) A (.builtin "list.__repr__.loop" ⟨[.ref a, rawInt (i : Int), .ref P, rawInt (b : Int)], []⟩) R s := by
  have hz := sizeLine_eq
  refine codeAny_builtin F.entry_list_repr_loop ?_
  show wpAny _ _ («list.__repr__.loop» ⟨[.ref a, .int i 0, .ref P, .int (b : Int) 0], []⟩) _ _ s
  rw [repr_loop_tree]
  refine wpAny_bind (wpAny_listItems (g _ _ ha) hda ?_)
  simp only [Int.toNat_natCast, hv]
  refine wpAny_bind (wpAny_holding (r (b + 1) hbt _ _ _ _ a1 ?_ (by rw [units_under_list_loop]; omega) g fun h1 k1 g1 => ?_))
  · show A.depth + Code.weight _ ≤ _
    rw [wt_loop]; omega
  refine wpAny_bind (wpAny_mkStr ?_ (by omega))
  refine wpAny_bind ?_
  show wpAny _ _ (updateSeq P _) _ _ _
  refine wpAny_updateSeq (g1 _ _ hP) rfl (wpAny_pure ⟨F.quiet_list_repr_loop _, ?_⟩) (by omega)
  have e1 : ((i : Int) + 1) = ((i + 1 : Nat) : Int) := by omega
  rw [e1]
  exact next _ k1 _ (fun q o e => (Heap.get?_update_other _ _ (fun z : P = q => by rw [← z, hP0] at e; cases e)).trans (g1 _ _ (g _ _ e)))
    (fun q o hq e => (Heap.get?_update_other _ _ (fun z : P = q => hq z.symm)).trans (g1 _ _ e)) (Heap.get?_update_self _ (g1 _ _ hP) rfl)
/-- all of them are -/
theorem loop_done {a P : Addr} {its : Array Value} {na c i b : Nat} {oa : Obj} {done : List (PySem.Str × Tok)} {T : PySem.Str} (hv : its[i]? = none) (g : Grow hb s.heap) (ha : hb.get? a = some oa) (hda : oa.data = .seq its na) (hP : s.heap.get? P = some (partsObj (strValues done).toArray c))
    (hT : listText (done.map (·.1)) = T) (hl : T.length ≤ sizeLine) (hR : ∀ u tk, R (.ok (.ret (.str T u))) { s with toks := tk }) :
    codeAny (model prog w) A (.builtin "list.__repr__.loop" ⟨[.ref a, rawInt (i : Int), .ref P, rawInt (b : Int)], []⟩) R s := by
  subst hT
  refine codeAny_builtin F.entry_list_repr_loop ?_
  show wpAny _ _ («list.__repr__.loop» ⟨[.ref a, .int i 0, .ref P, .int (b : Int) 0], []⟩) _ _ s
  rw [repr_loop_tree]
  refine wpAny_bind (wpAny_listItems (g _ _ ha) hda ?_)
  simp only [Int.toNat_natCast, hv]
  unfold reprEnd
  refine wpAny_bind (wpAny_listItems hP rfl ?_)
  rw [show (strValues done).toArray.toList = strValues done by simp, repr_fold]
  refine wpAny_bind (wpAny_pure ?_)
  exact wpAny_bind (wpAny_mkStr (wpAny_pure (hR _ _)) hl)
/-- a list of two is written -/
theorem two_told {a : Addr} {na base : Nat} {v1 v2 : Value} {t1 t2 : PySem.Str} {oa : Obj} (r1 : RepI prog w hb v1 t1) (r2 : RepI prog w hb v2 t2) (ha : hb.get? a = some oa) (hda : oa.data = .seq #[v1, v2] na) (a1 : A.handled = none) (a2 : A.guards = some []) (a3 : A.depth ≤ 800) (a4 : A.units ≤ 4100) (g : Grow hb s.heap)
    (l1 : t1.length ≤ 100000) (l2 : t2.length ≤ 100000) (hbs : base ≤ 2000000)
    (hR : ∀ h' u tk, Grow s.heap h' → R (.ok (.ret (.str (listText [t1, t2]) u))) { s with heap := h', toks := tk }) :
    wpAny (model prog w) A.in1 (Builtin.listReprAt base ⟨[.ref a], []⟩) (fun fin s' => match fin with | .done f => R (.ok f) s' | .again c' => c'.quiet = true ∧ codeAny (model prog w) A c' R s') (fun e s' => R (.error e) s') s := by
  have hz := sizeLine_eq
  have hP0 : hb.get? s.heap.objs.size = none := by
    cases e : hb.get? s.heap.objs.size with
    | none => rfl
    | some o => exact absurd (Heap.lt_size (g _ _ e)) (Nat.lt_irrefl _)
  refine wpAny_list_repr_head (A := A.in1) a2 (fun v rest kw hm => nomatch hm) (g _ _ ha) (x := v1) (l := [v2]) hda ?_
  refine wpAny_bind (m := newList []) (wpAny_newObj_type ?_)
  refine wpAny_pure ⟨F.quiet_list_repr_loop _, ?_⟩
  refine loop_item (i := 0) (its := #[v1, v2]) (v := v1) (acc := #[]) rfl r1 a1 a3 a4 (fun b o e => Heap.get?_push_of_some _ (g _ _ e)) hP0 ha hda (Heap.get?_push_size _ rfl) (by omega) (by decide) fun h1 k1 c1 g1 q1 p1 => ?_
  refine loop_item (i := 1) (its := #[v1, v2]) (v := v2) rfl r2 a1 a3 a4 g1 hP0 ha hda p1 (by omega) (by simp) fun h2 k2 c2 g2 q2 p2 => ?_
  refine loop_done (i := 2) (its := #[v1, v2]) (done := [(t1, k1), (t2, k2)]) rfl g2 ha hda p2 rfl ?_ fun u tk => hR _ _ _ fun b o e => ?_
  · have h := textFrom_len [t1, t2] 0 "["
    show (textFrom 0 "[" [t1, t2] ++ "]").length ≤ _
    rw [strLen_append]
    have e1 : (textFrom 0 "[" [t1, t2]).length ≤ 200100 := by
      show ((("[" : PySem.Str) ++ (if (0 : Nat) > 0 then ", " else "" : String) ++ t1) ++ (if (0 : Nat) + 1 > 0 then ", " else "" : String) ++ t2).length ≤ _
      simp only [strLen_append]
      have x1 : (PySem.Str.ofString "[").length = 1 := rfl
      have x2 : (PySem.Str.ofString (if (0 : Nat) > 0 then ", " else "" : String)).length = 0 := rfl
      have x3 : (PySem.Str.ofString (if (0 : Nat) + 1 > 0 then ", " else "" : String)).length = 2 := rfl
      omega
    have e2 : (PySem.Str.ofString "]").length = 1 := rfl
    omega
  · have hne : b ≠ s.heap.objs.size := Nat.ne_of_lt (Heap.lt_size e)
    exact q2 b o hne (q1 b o hne (Heap.get?_push_of_some _ e))
theorem rep_list2 {a : Addr} {na : Nat} {v1 v2 : Value} {t1 t2 : PySem.Str} {oa : Obj} (r1 : RepI prog w hb v1 t1) (r2 : RepI prog w hb v2 t2) (ha : hb.get? a = some oa) (hc : oa.cls = .type "list") (hda : oa.data = .seq #[v1, v2] na)
    (l1 : t1.length ≤ 100000) (l2 : t2.length ≤ 100000) (hl : (listText [t1, t2]).length ≤ 1000000) : Rep prog w hb (.ref a) (listText [t1, t2]) := by
  have hz := sizeLine_eq
  have direct : ∀ (A : Around) (s : Shared) (Q E : Value → Shared → Prop), A.handled = none → A.guards = some [] → A.depth ≤ 800 → A.units ≤ 4100 → Grow hb s.heap →
      (∀ h' u tk, Grow s.heap h' → Q (.str (listText [t1, t2]) u) { s with heap := h', toks := tk }) → wpAny (model prog w) A (PySem.call (.builtin "list.__repr__") [.ref a]) Q E s := fun A s Q E a1 a2 a3 a4 g h =>
    wpAny_call (codeAny_call_builtin F.slot_list_repr.plain F.entry_list_repr (F.slot_list_repr.check _ _ _ _ _ _ _ _ ⟨oa, g _ _ ha, hc⟩ (F.args_list_repr_1 _)
      (two_told (base := 0) (R := callEnd Q E) r1 r2 ha hda a1 a2 a3 a4 g l1 l2 (by decide) h)))
  refine ⟨fun A s Q E a1 a2 a3 a4 g h => ?_, fun A s Q E a1 a2 a3 a4 g h => ?_, fun m hm A s Q E a1 a2 a3 a4 g h => ?_, hl⟩
  · have hTy : s.TypeIs (.ref a) "list" := ⟨oa, g _ _ ha, hc⟩
    refine Calls.call_function_entry PySem.F.kind_repr PySem.F.plain_repr PySem.F.entry_repr (PySem.F.args_repr1 _) ?_
    unfold Builtin.«repr»
    refine wpAny_bind (m := oneArg "repr" _) (wpAny_pure ?_)
    refine wpAny_bind (wpAny_cRoomFor (units_ok (Nat.succ_le_succ a4) (by decide +kernel)) ?_)
    refine wpAny_bind (wpAny_specialOf (name := PySem.Str.ofString "__repr__") hTy F.slot_list_repr.lookup ?_)
    refine wpAny_bind (m := callSpecialIfBound? (.ref a) (PySem.Str.ofString "__repr__") _) (wpAny_callSpecialIfBound?_slot (name := PySem.Str.ofString "__repr__") hTy F.slot_list_repr
      (direct _ _ _ _ a1 a2 a3 (Nat.le_trans (Nat.succ_le_succ a4) (by decide)) g fun h' u tk g' => ?_))
    exact wpAny_bind (wpAny_isInstance (T := "str") (b := true) rfl isSubtype_str_str (wpAny_pure ⟨_, rfl, h h' u tk g'⟩))
  · have hTy : s.TypeIs (.ref a) "list" := ⟨oa, g _ _ ha, hc⟩
    unfold pyReprObj
    refine wpAny_bind (wpAny_cRoomFor (units_ok a4 (by decide +kernel)) ?_)
    refine wpAny_bind (wpAny_specialOf (name := PySem.Str.ofString "__repr__") hTy F.slot_list_repr.lookup ?_)
    refine wpAny_bind (m := callSpecialIfBound? (.ref a) (PySem.Str.ofString "__repr__")) (wpAny_callSpecialIfBound?_slot (name := PySem.Str.ofString "__repr__") hTy F.slot_list_repr
      (direct _ _ _ _ a1 a2 a3 (Nat.le_trans a4 (by decide)) g fun h' u tk g' => ?_))
    exact wpAny_bind (wpAny_isInstance (T := "str") (b := true) rfl isSubtype_str_str (wpAny_pure (h h' u tk g')))
  · exact wpAny_pyReprObjUnder_twin (twin := "list.__repr__.under") ⟨oa, g _ _ ha, hc⟩ F.slot_list_repr.toG rfl (units_ok a4 (by decide +kernel))
      (call_twin_plain F.plain_list_repr_under F.entry_list_repr_under F.check_list_repr_under ⟨oa, g _ _ ha, hc⟩ F.slot_list_repr.toG (F.args_list_repr_1 _)
        (two_told (R := callEnd _ E) r1 r2 ha hda a1 a2 a3 (Nat.le_trans a4 (by decide)) g l1 l2 hm (fun h' u tk g' => ⟨⟨_, _, rfl⟩, h h' u tk g'⟩)))
end
end Mine
end
section
open PySem PySem.W PySem.Calls PyProof.Rows Builtin Builtin.Str
set_option Elab.async false
set_option maxRecDepth 100000
set_option maxHeartbeats 4000000
namespace Mine
section
variable {prog : Program} {w : World} {A : Around} {E : Value → Shared → Prop} {s : Shared} {h₀ hb : Heap} {a : Addr} {d : PyData} {as : List Addr}
theorem leaf_units (h : A.units ≤ 4000) : A.units < cLine := Nat.lt_of_le_of_lt h (Nat.le_of_ble_eq_true rfl)
theorem rep_int {n : Int} {t : Tok} (hn : n.natAbs.log2 < 1920) (hl : (Str.ofString (toString n)).length ≤ 1000000) : Rep prog w hb (.int n t) (toString n) where
  call := fun A s Q E _ _ _ _ _ h => P.repr_of_int hn (h s.heap _ _ fun _ _ e => e)
  obj := fun A s Q E _ _ _ _ _ h => pyReprObj_int hn (h s.heap _ _ fun _ _ e => e)
  under := fun n _ A s Q E _ _ _ hu _ h => under_leaf (typeIs_int s _ _) F.slot_int_repr.toG rfl (leaf_units hu) (call_gives F.slot_int_repr (typeIs_int s _ _) F.entry_int_repr (F.args_int_repr_1 _) (gives_int_repr _ _ hn) ⟨Nat.le_trans hl (by rw [sizeLine_eq]; decide), ⟨_, _, rfl⟩, h s.heap _ _ fun _ _ e => e⟩)
  short := hl
theorem rep_bool (b : Bool) : Rep prog w hb (.bool b) (if b then "True" else "False") where
  call := fun A s Q E _ _ _ _ _ h => P.repr_of_bool (h s.heap _ _ fun _ _ e => e)
  obj := fun A s Q E _ _ _ _ _ h => pyReprObj_bool (h s.heap _ _ fun _ _ e => e)
  under := fun n _ A s Q E _ _ _ hu _ h => under_leaf (PySem.typeIs_bool s b) F.slot_bool_repr.toG rfl (leaf_units hu) (call_gives F.slot_bool_repr (PySem.typeIs_bool s b) F.entry_bool_repr (F.args_bool_repr_1 _) (gives_bool_repr b) ⟨by rw [sizeLine_eq]; cases b <;> decide +kernel, ⟨_, _, rfl⟩, h s.heap _ _ fun _ _ e => e⟩)
  short := by cases b <;> decide +kernel
theorem rep_none : Rep prog w hb .none "None" where
  call := fun A s Q E _ _ _ _ _ h => P.repr_of_none (h s.heap _ _ fun _ _ e => e)
  obj := fun A s Q E _ _ _ _ _ h => pyReprObj_none (h s.heap _ _ fun _ _ e => e)
  under := fun n _ A s Q E _ _ _ hu _ h => under_leaf (typeIs_none s) F.slot_NoneType_repr.toG rfl (leaf_units hu) (call_gives F.slot_NoneType_repr (typeIs_none s) F.entry_NoneType_repr (F.args_NoneType_repr_1 _) gives_none_repr ⟨by rw [sizeLine_eq]; decide +kernel, ⟨_, _, rfl⟩, h s.heap _ _ fun _ _ e => e⟩)
  short := by decide +kernel
theorem under_reads {base : Nat} {Q : Value → Shared → Prop} (r : Reads h₀ (.ref a) d as) (hs : d.showable = true) (hsm : sysModules ∉ as) (hz : base + d.shown.length ≤ sizeLine) (hg : A.guards = some []) (hu : A.units + d.depth < cLine) (hk0 : ∀ b o, h₀.get? b = some o → s.heap.get? b = some o)
    (hQ : ∀ h' u tk, (∀ b o, s.heap.get? b = some o → h'.get? b = some o) → Q (.str d.shown u) { s with heap := h', toks := tk }) : wpAny (model prog w) A (pyReprObjUnder base (.ref a)) Q E s := by
  cases r with
  | list h1 h2 h3 h4 =>
    rename_i o vs n xs bs₀
    have hz' : base + (listText (PyData.shownAll xs)).length ≤ sizeLine := by simpa only [PyData.shown] using hz
    obtain ⟨bs, hb, hk⟩ := ReprAllK.of_readsAll (prog := prog) (w := w) h4 (by simpa [PyData.showable] using hs) (fun _ hm => hsm (List.mem_cons_of_mem _ hm)) (fun t ht => Nat.le_trans (listText_mem_le ht) (by omega))
    have hna : a ∉ bs := not_mem_of_deeper (.list h1 h2 h3 h4) (by simp only [PyData.depth]; omega) hb
    simp only [PyData.depth] at hu
    simp only [PyData.shown] at hQ
    obtain ⟨l⟩ := vs
    cases l with
    | nil =>
      have h4' : ReadsAll h₀ [] xs _ := h4
      cases h4'
      simp only [PyData.shownAll, listText_nil] at hQ
      exact wpAny_pyReprObjUnder_list_empty ⟨_, hk0 _ _ h1, h2⟩ (by omega) (hk0 _ _ h1) h3 (hQ s.heap _ _ fun _ _ e => e)
    | cons x l =>
      exact wpAny_pyReprObjUnder_listK h1 h2 h3 hna (by simpa using hk.length_eq) (fun i y e => hk.item i y (by simpa using e)) hg (fun b _ => Clear.nil b) hu hk0 hQ hz'
  | tuple h1 h2 h3 h4 =>
    rename_i o vs n xs
    have hz' : base + (tupleText (PyData.shownAll xs)).length ≤ sizeLine := by simpa only [PyData.shown] using hz
    obtain ⟨bs, hb, hk⟩ := ReprAllK.of_readsAll (prog := prog) (w := w) h4 (by simpa [PyData.showable] using hs) (fun _ => hsm) (fun t ht => Nat.le_trans (tupleText_mem_le ht) (by omega))
    have hna : a ∉ bs := not_mem_of_deeper (.tuple h1 h2 h3 h4) (by simp only [PyData.depth]; omega) hb
    simp only [PyData.depth] at hu
    simp only [PyData.shown] at hQ
    exact wpAny_pyReprObjUnder_tupleK h1 h2 h3 hna hk hg (fun b _ => Clear.nil b) hu hk0 hQ hz'
  | dict h1 h2 h3 h4 h5 =>
    rename_i o es n kvs as₁ bs₁
    have hz' : base + (dictText (PyData.shownKv kvs)).length ≤ sizeLine := by simpa only [PyData.shown] using hz
    have hno : sysModules ∉ a :: as₁ ++ bs₁ := hsm
    obtain ⟨hs1, hs2⟩ := PyData.showableKv_split kvs (by simpa [PyData.showable] using hs)
    obtain ⟨b1, hb1, k1⟩ := ReprAllK.of_readsAll (prog := prog) (w := w) h4 hs1 (fun _ hm => hno (List.mem_cons_of_mem _ (List.mem_append_left _ hm))) (fun t ht => let ⟨p, hp, hl⟩ := PyData.shownKv_key_le kvs t ht; Nat.le_trans hl (Nat.le_trans (dictText_mem_le hp) (by omega)))
    obtain ⟨b2, hb2, k2⟩ := ReprAllK.of_readsAll (prog := prog) (w := w) h5 hs2 (fun _ hm => hno (List.mem_cons_of_mem _ (List.mem_append_right _ hm))) (fun t ht => let ⟨p, hp, hl⟩ := PyData.shownKv_val_le kvs t ht; Nat.le_trans hl (Nat.le_trans (dictText_mem_le hp) (by omega)))
    have hb : ReadAtMost h₀ (PyData.depthKv kvs) (b1 ++ b2) := (hb1.mono (PyData.depthAll_keys_le kvs)).append (hb2.mono (PyData.depthAll_vals_le kvs))
    have hna : a ∉ b1 ++ b2 := not_mem_of_deeper (.dict h1 h2 h3 h4 h5) (by simp only [PyData.depth]; omega) hb
    have hsys : (a == sysModules) = false := beq_eq_false_iff_ne.mpr fun e => hno (e ▸ List.mem_cons_self ..)
    simp only [PyData.depth] at hu
    simp only [PyData.shown, PyData.shownKv_eq] at hQ
    exact wpAny_pyReprObjUnder_dictK h1 h2 h3 hsys hna (ReprEntriesK.of_two es.toList _ _
      (k1.more_le (fun b hb => List.mem_append_left _ hb) (PyData.depthAll_keys_le kvs)) (k2.more_le (fun b hb => List.mem_append_right _ hb) (PyData.depthAll_vals_le kvs))) hg (fun b _ => Clear.nil b) hu hk0 hQ (by rw [← PyData.shownKv_eq]; exact hz')
/-- what a heap reads as data, repr writes so -/
theorem rep_reads {v : Value} (r : Reads hb v d as) (hs : d.showable = true) (hsm : sysModules ∉ as) (hl : d.shown.length ≤ 100000) (hd : d.depth ≤ 100) : Rep prog w hb v d.shown := by
  have hz := sizeLine_eq
  have hc : 4200 < cLine := Nat.le_of_ble_eq_true rfl
  cases hv : v with
  | ref a =>
    subst hv
    exact ⟨fun A s Q E a1 a2 a3 a4 g h => repr_of_reads' r hs (fun _ => hsm) a2 (by omega) g h (by omega), fun A s Q E a1 a2 a3 a4 g h => pyReprObj_of_reads r hs (fun _ => hsm) a2 (by omega) g h (by omega),
      fun n hn A s Q E a1 a2 a3 a4 g h => under_reads r hs hsm (by omega) a2 (by omega) g h, by omega⟩
  | _ =>
    subst hv
    cases r
    all_goals (simp only [PyData.shown] at hl ⊢; first | exact rep_none | exact rep_bool _ | exact rep_str (by omega) | exact rep_int (by simpa [PyData.showable] using hs) (Nat.le_trans hl (by decide)))
end
end Mine
end
section
open PySem PySem.W PySem.Calls PyProof.Rows
set_option Elab.async false
set_option maxRecDepth 100000
set_option maxHeartbeats 4000000
namespace Mine
theorem sapp (a b c : Str) : a ++ b ++ c = a ++ (b ++ c) := by
  have e : (a ++ b ++ c).cps = (a ++ (b ++ c)).cps := by simp only [PySem.Str.cps_append, Array.append_assoc]
  exact congrArg PySem.Str.mk e
theorem tj0 (l : List Str) : Txt.join (Str.ofString "") l = Str.join (Str.ofString "") l := by
  unfold Txt.join
  rw [StrLaws.glued_eq_join]
theorem tj1 (x : Str) : Txt.join (Str.ofString "") [x] = x := by rw [tj0]; rfl
theorem tjc (x y : Str) (r : List Str) : Txt.join (Str.ofString "") (x :: y :: r) = x ++ Txt.join (Str.ofString "") (y :: r) := by
  rw [tj0, tj0]
  show x ++ Str.ofString "" ++ Str.join (Str.ofString "") (y :: r) = _
  rw [KFm.cat_t]
theorem lit_s : Str.ofString "]: " ++ Str.ofString "section " = Str.ofString "]" ++ Str.ofString ": section " := by decide +kernel
theorem lit_o : Str.ofString "]: " ++ Str.ofString "option " = Str.ofString "]" ++ Str.ofString ": option " := by decide +kernel
theorem tx60a (r : Str) : Txt.join (Str.ofString "") [Str.ofString "Section ", r, Str.ofString " already exists"] = Str.ofString "Section " ++ (r ++ Str.ofString " already exists") := by
  simp only [tjc, tj1]
theorem tx80a (o r : Str) : Txt.join (Str.ofString "") [Str.ofString "Option ", o, Str.ofString " in section ", r, Str.ofString " already exists"] = Str.ofString "Option " ++ (o ++ Str.ofString " in section " ++ (r ++ Str.ofString " already exists")) := by
  simp only [tjc, tj1, sapp]
theorem tx60b (rc r : Str) (n : Int) : Txt.join (Str.ofString "") [Str.ofString "While reading from ", rc, lineText n, Str.ofString ": section ", r, Str.ofString " already exists"] =
    Str.ofString "While reading from " ++ rc ++ Str.ofString " [line " ++ fig2 n ++ Str.ofString "]: " ++ Str.ofString "section " ++ (r ++ Str.ofString " already exists") := by
  rw [sapp _ (Str.ofString "]: "), lit_s]
  simp only [tjc, tj1, sapp, lineText]
theorem tx80b (rc o r : Str) (n : Int) : Txt.join (Str.ofString "") [Str.ofString "While reading from ", rc, lineText n, Str.ofString ": option ", o, Str.ofString " in section ", r, Str.ofString " already exists"] =
    Str.ofString "While reading from " ++ rc ++ Str.ofString " [line " ++ fig2 n ++ Str.ofString "]: " ++ Str.ofString "option " ++ (o ++ Str.ofString " in section " ++ (r ++ Str.ofString " already exists")) := by
  rw [sapp _ (Str.ofString "]: "), lit_o]
  simp only [tjc, tj1, sapp, lineText]
end Mine
end
section
open PySem PySem.W PySem.Calls PyProof.Rows
set_option Elab.async false
set_option maxRecDepth 100000
set_option maxHeartbeats 1000000
namespace Mine
def Inv05 (pre : List Int) (line : Int) (figures : Str) : Prop := 0 ≤ line ∧ figures.length ≤ pre.length ∧ line < 10 ^ pre.length ∧ (pre ≠ [] → figures = Str.ofString (toString line)) ∧ (pre = [] → line = 0)
theorem inv05_0 : Inv05 [] 0 (Str.ofString "") := ⟨by decide, by decide, by decide, fun h => absurd rfl h, fun _ => rfl⟩
theorem item_fig : ∀ d : Fin 10, Txt.item (Str.ofString "0123456789") (d.val : Int) = ⟨#[48 + d.val]⟩ := by decide +kernel
theorem dig_fig : ∀ d : Fin 10, (Nat.toDigits 10 d.val).map Char.toNat = [48 + d.val] := by decide +kernel
theorem fig_step {m d : Nat} (hm : 0 < m) (hd : d < 10) : Str.ofString (toString (Int.ofNat m)) ++ (⟨#[48 + d]⟩ : Str) = Str.ofString (toString (Int.ofNat (m * 10 + d))) := by
  rw [text_ofNat, text_ofNat, Nat.mul_comm m 10, ← Nat.toDigits_append_toDigits (by decide) hm hd, List.map_append, dig_fig ⟨d, hd⟩]
  apply congrArg PySem.Str.mk
  simp
theorem fig_one {d : Nat} (hd : d < 10) : (⟨#[48 + d]⟩ : Str) = Str.ofString (toString (Int.ofNat d)) := by
  rw [text_ofNat, dig_fig ⟨d, hd⟩]
theorem step05 {pre : List Int} {line : Int} {figures fig : Str} {n : Int} (hI : Inv05 pre line figures) (h1 : line = 0 → fig = Str.ofString "") (h2 : line ≠ 0 → fig = figures) : Inv05 (pre ++ [n]) (line * 10 + (if n < 0 then -n else n).fmod 10) (fig ++ Txt.item (Str.ofString "0123456789") ((if n < 0 then -n else n).fmod 10)) := by
  obtain ⟨i1, i2, i3, i4, i5⟩ := hI
  have d0 := Int.fmod_nonneg_of_pos (if n < 0 then -n else n) (b := 10) (by decide)
  have d1 := Int.fmod_lt_of_pos (if n < 0 then -n else n) (b := 10) (by decide)
  generalize (if n < 0 then -n else n).fmod 10 = d at *
  obtain ⟨d, rfl⟩ := Int.eq_ofNat_of_zero_le d0
  have hd : d < 10 := by omega
  rw [item_fig ⟨d, hd⟩]
  obtain ⟨m, rfl⟩ := Int.eq_ofNat_of_zero_le i1
  have hl : (⟨#[48 + d]⟩ : Str).length = 1 := rfl
  refine ⟨by omega, ?_, ?_, fun _ => ?_, fun h => by simp at h⟩
  · rw [PySem.Str.length_append, hl, List.length_append]
    by_cases hm : (m : Int) = 0
    · rw [h1 hm]
      have h0 : (Str.ofString "").length = 0 := rfl
      simp [h0]
    · rw [h2 hm]; simpa using i2
  · rw [List.length_append, List.length_singleton, Int.pow_succ]; omega
  · by_cases hm : (m : Int) = 0
    · rw [h1 hm, hm]
      have e0 : Str.ofString "" = PySem.Str.empty := rfl
      rw [e0, KFm.cat_e]
      have := fig_one hd
      simpa using this
    · have hp : pre ≠ [] := fun e => hm (i5 e)
      rw [h2 hm, i4 hp]
      have := fig_step (m := m) (by omega) hd
      simpa using this
theorem nd_pos {m : Nat} : numDigits (Int.ofNat m) = (Nat.toDigits 10 m).map Char.toNat := by
  unfold numDigits
  rw [if_neg (by simp)]
  rfl
theorem mul_sp (k : Int) (hk : k ≤ 2) : Txt.mul (Str.ofString " ") k = ⟨(List.replicate k.toNat 32).toArray⟩ := by
  by_cases h0 : k < 1
  · have : k.toNat = 0 := by omega
    rw [this]; unfold Txt.mul; rw [if_pos h0]; rfl
  · rcases (by omega : k = 1 ∨ k = 2) with rfl | rfl
    · rfl
    · rfl
theorem told05 {pre : List Int} {line : Int} {fig : Str} {n : Int} (hI : Inv05 (pre ++ [n]) line fig) : Txt.mul (Str.ofString " ") (2 - (fig.length : Int)) ++ fig = fig2 line := by
  obtain ⟨i1, i2, i3, i4, i5⟩ := hI
  have hf := i4 (by simp)
  obtain ⟨m, rfl⟩ := Int.eq_ofNat_of_zero_le i1
  have hf' : fig = ⟨((Nat.toDigits 10 m).map Char.toNat).toArray⟩ := hf.trans (text_ofNat m)
  have hl : fig.length = ((Nat.toDigits 10 m).map Char.toNat).length := by rw [hf']; simp [PySem.Str.length]
  rw [mul_sp _ (by omega), hl, hf']
  unfold fig2
  rw [show numDigits (m : Int) = _ from nd_pos]
  apply congrArg PySem.Str.mk
  have e : (2 - (((Nat.toDigits 10 m).map Char.toNat).length : Int)).toNat = 2 - ((Nat.toDigits 10 m).map Char.toNat).length := by omega
  rw [e]
  simp
theorem numDigits_len {n : Int} (h : n.natAbs < 10 ^ 41) : (numDigits n).length ≤ 42 := by
  have h1 := digits10_le (k := 41) (by decide) h
  unfold numDigits
  rw [List.length_append, List.length_map]
  split <;> simp <;> omega
theorem fig2_len {n : Int} (h : n.natAbs < 10 ^ 41) : (fig2 n).length ≤ 44 := by
  have h1 := numDigits_len h
  unfold fig2
  simp only [PySem.Str.length, List.size_toArray, List.length_append, List.length_replicate]
  omega
theorem log2_ok {n : Int} (h : n.natAbs < 10 ^ 41) : n.natAbs.log2 < 1920 := by
  by_cases h0 : n.natAbs = 0
  · rw [h0]; decide
  · exact Nat.lt_of_lt_of_le ((Nat.log2_lt h0).mpr (Nat.lt_trans h (by decide : 10 ^ 41 < 2 ^ 200))) (by decide)
theorem abs05 {pre : List Int} {line : Int} {fig : Str} {n : Int} (hp : pre.length ≤ 40) (hI : Inv05 (pre ++ [n]) line fig) : line.natAbs < 10 ^ 41 := by
  obtain ⟨i1, _, i3, _, _⟩ := hI
  have h1 : (10 : Int) ^ (pre ++ [n]).length ≤ 10 ^ 41 := by
    have : (10 : Nat) ^ (pre ++ [n]).length ≤ 10 ^ 41 := Nat.pow_le_pow_right (by decide) (by simp; omega)
    exact_mod_cast this
  have h2 := Int.lt_of_lt_of_le i3 h1
  have h3 : ((line.natAbs : Nat) : Int) < ((10 ^ 41 : Nat) : Int) := by
    rw [Int.natAbs_of_nonneg i1]; exact_mod_cast h2
  exact_mod_cast h3
theorem neg05 {pre : List Int} {line : Int} {fig : Str} {n : Int} (hI : Inv05 (pre ++ [n]) line fig) (h : 0 < line) : Str.ofString "-" ++ fig = fig2 (-line) := by
  obtain ⟨i1, i2, i3, i4, i5⟩ := hI
  have hf := i4 (by simp)
  obtain ⟨m, rfl⟩ := Int.eq_ofNat_of_zero_le i1
  have hf' : fig = ⟨((Nat.toDigits 10 m).map Char.toNat).toArray⟩ := hf.trans (text_ofNat m)
  have h1 := tDigits_len_ge 10 m
  have e : numDigits (-(m : Int)) = 45 :: (Nat.toDigits 10 m).map Char.toNat := by
    unfold numDigits
    rw [if_pos (by omega), Int.natAbs_neg, Int.natAbs_natCast]; rfl
  unfold fig2
  rw [e, hf', show 2 - (45 :: (Nat.toDigits 10 m).map Char.toNat).length = 0 by simp; omega]
  apply congrArg PySem.Str.mk
  simp
  rfl
theorem zero05 : Str.ofString " 0" = fig2 0 := by decide +kernel
end Mine
end
section
open PySem PySem.W PySem.Calls PyProof.Rows
set_option Elab.async false
set_option maxRecDepth 100000
set_option maxHeartbeats 4000000
namespace Mine
section
variable {prog : Program} {w : World} {A : Around} {E : Value → Shared → Prop} {s : Shared} {env : Env} {h₀ : Heap} {target : Expr} {body : List Stmt} {Q : Flow → Shared → Prop}
/-- a loop over a list of the ledger, by what holds of the frame; the ledger is kept -/
theorem turns_inv {ax : Addr} {vs : List Value} {nn : Nat} {m₀ : Str → Option Value} {news : List (Addr × Obj)} (J : (Str → Option Value) → Prop)
    (hh : A.handled = none) (hl : (ax, listOf vs.toArray nn) ∈ news) (F : Fr h₀ env.locals s.heap m₀) (N : News h₀ env.locals s.heap news) (hj : J m₀)
    (turn : ∀ v m₁ h tk own, v ∈ vs → J m₁ → Fr h₀ env.locals h m₁ → News h₀ env.locals h (news ++ own) →
      wpAny (model prog w) A (assign target env v) (fun _ s₃ => wpAny (model prog w) A (execs body env) (InvPost h₀ env.locals J (news ++ own) { s with heap := h, toks := tk } Q) E s₃) E { s with heap := h, toks := tk })
    (done : ∀ m₁ h tk, J m₁ → Fr h₀ env.locals h m₁ → News h₀ env.locals h news → Q .next { s with heap := h, toks := tk }) :
    wpAny (model prog w) A (pyIter (.ref ax)) (fun it s₂ => TurnsAt prog w A h₀ env target body Q E it s₂) E s := by
  have hol : s.heap.get? ax = some (listOf vs.toArray nn) := (N _ hl).1
  have hls : s.heap.IsList ax vs.toArray := ⟨_, hol, rfl, nn, rfl⟩
  have hne : ax ≠ s.heap.objs.size := Nat.ne_of_lt (Heap.lt_size hol)
  refine wpAny_pyIter_list hls ?_
  have W := KTurns.ofWalks (target := target) (Walks.list (prog := prog) (w := w) hh s.heap.objs.size ax hne vs.toArray) fun i v s Q E st q => letGo_listiter st.1 q
  refine ⟨_, _, _, _, _, _, _, m₀, news, (fun _ m nx => nx = news ∧ J m), rfl, W, ?_, ?_, ?_, ⟨⟨_, Heap.get?_push_size _ rfl, rfl, rfl⟩, hls.at fun o e => Heap.get?_push_of_some _ e⟩, F.push _, (fun p hp => ⟨Heap.get?_push_of_some _ (N p hp).1, (N p hp).2⟩), ⟨rfl, hj⟩, ?_, ?_⟩
  · intro hm
    rcases List.mem_cons.mp hm with e | hm
    · exact absurd F.ns.lt (e ▸ Nat.lt_irrefl _)
    · exact (N _ hl).2.1 ((List.mem_singleton.mp hm).symm)
  · intro b hb
    rw [List.mem_singleton.mp hb]
    exact next_is_new F
  · intro p hp hI
    exact absurd (Heap.lt_size (N p hp).1) ((List.mem_singleton.mp hI) ▸ Nat.lt_irrefl _)
  · rintro i v m₁ news₁ h₁ tk₁ own hin hP ⟨rfl, hJ⟩ hoff hown hget hall _ F₁ N₁
    have hP' : vs[i]? = some v := by simpa using hP
    have N₂ : News h₀ env.locals h₁ (news₁ ++ own) := fun p hp => N₁ p ((List.mem_append.mp hp).elim (fun h => List.mem_append.mpr (.inr h)) fun h => List.mem_append.mpr (.inl h))
    refine wpAny_mono (turn v m₁ h₁ tk₁ own (List.mem_of_getElem? hP') hJ F₁ N₂) (fun _ s₃ z => wpAny_mono z (fun f s₂ p => ?_) fun _ _ e => e) fun _ _ e => e
    have fin : InvEnd h₀ env.locals J (news₁ ++ own) { s with heap := h₁, toks := tk₁ } s₂ → LoopStepU h₀ env.locals [s.heap.objs.size] own (fun m nx => nx = news₁ ∧ J m) { s with heap := h₁, toks := tk₁ } .next s₂ := by
      rintro ⟨h', tk, m', news', e, F', N', hn, hm⟩
      exact ⟨rfl, h', tk, m', news₁, e, F', fun p hp => N' p (hn p ((List.mem_append.mp hp).elim (fun h => List.mem_append.mpr (.inr h)) fun h => List.mem_append.mpr (.inl h))), hoff, rfl, hm⟩
    cases f with
    | ret v => exact .ret p
    | brk => exact .brk p
    | next => exact .next (fin p)
    | cont => exact .cont (fin p)
  · rintro h' tk m' news' F' N' _ ⟨rfl, hJ⟩
    exact done m' h' tk hJ F' N'
theorem turns_keep {ax : Addr} {vs : List Value} {nn : Nat} {m₀ : Str → Option Value} {news : List (Addr × Obj)} (junk : List Str)
    (hh : A.handled = none) (hl : (ax, listOf vs.toArray nn) ∈ news) (F : Fr h₀ env.locals s.heap m₀) (N : News h₀ env.locals s.heap news)
    (turn : ∀ v m₁ h tk led, v ∈ vs → (∀ z, z ∉ junk → m₁ z = m₀ z) → (∀ p ∈ news, p ∈ led) → Fr h₀ env.locals h m₁ → News h₀ env.locals h led →
      wpAny (model prog w) A (assign target env v) (fun _ s₃ => wpAny (model prog w) A (execs body env) (InvPost h₀ env.locals (fun m' => ∀ z, z ∉ junk → m' z = m₀ z) led { s with heap := h, toks := tk } Q) E s₃) E { s with heap := h, toks := tk })
    (done : ∀ m₁ h tk, (∀ z, z ∉ junk → m₁ z = m₀ z) → Fr h₀ env.locals h m₁ → News h₀ env.locals h news → Q .next { s with heap := h, toks := tk }) :
    wpAny (model prog w) A (pyIter (.ref ax)) (fun it s₂ => TurnsAt prog w A h₀ env target body Q E it s₂) E s :=
  turns_inv (fun m' => ∀ z, z ∉ junk → m' z = m₀ z) hh hl F N (fun _ _ => rfl) (fun v m₁ h tk own hv hj F₁ N₁ => turn v m₁ h tk (news ++ own) hv hj (fun _ hp => List.mem_append_left _ hp) F₁ N₁) done
theorem fr_names {L : Addr} {h : Heap} {m₁ : Str → Option Value} (ps : List (Str × Value)) (hp : ∀ p ∈ ps, m₁ p.1 = some p.2) (F : Fr h₀ L h m₁) : Fr h₀ L h (kstB m₁ ps) := by
  have e : kstB m₁ ps = m₁ := funext fun z => kstB_eq hp fun _ => rfl
  rw [e]; exact F
theorem inv_end {L : Addr} {J : (Str → Option Value) → Prop} {m' : Str → Option Value} {need news' : List (Addr × Obj)} {h' : Heap} {tk : Nat} (F : Fr h₀ L h' m') (N : News h₀ L h' news') (hn : ∀ p ∈ need, p ∈ news') (hj : J m') : InvPost h₀ L J need s Q .next { s with heap := h', toks := tk } :=
  InvEnd.intro F N hn hj
end
end Mine
end
section
open PySem PySem.W PySem.Calls PyProof.Rows
set_option Elab.async false
set_option maxRecDepth 100000
set_option maxHeartbeats 4000000
namespace Mine
theorem kitAt_tup {h h' : Heap} {a : Addr} {its : Array Value} (x : IsTup h a its) (g : Grow h h') : KitAt a "tuple" h' := by
  obtain ⟨o, ho, hc, _⟩ := x
  exact ⟨o, g _ _ ho, hc⟩
theorem kitAt_list {h h' : Heap} {a : Addr} {its : Array Value} (x : h.IsList a its) (g : Grow h h') : KitAt a "list" h' := by
  obtain ⟨o, ho, hc, _⟩ := x
  exact ⟨o, g _ _ ho, hc⟩
end Mine
end
section
open PySem PySem.W PySem.Spec PySem.Calls PyProof.Rows PyProof.Rows.LCg
set_option Elab.async false
set_option maxRecDepth 100000
set_option maxHeartbeats 4000000
namespace Mine
/-- the source of a comprehension is a tuple that stood ahead of the frame -/
def SrcT (prog : Program) (w : World) (A : Around) (h₀ : Heap) (L : Addr) (m : Str → Option Value) (env : Env) (elt : Expr) (x : Str) (scope : Scope) (cl : List (Str × Addr)) (Fin : Shared → List Value → List (Addr × Obj) → Prop) (xv : Value) (s₁ : Shared) : Prop :=
  ∃ ax its news, xv = .ref ax ∧ A.handled = none ∧ Fr h₀ L s₁.heap m ∧ News h₀ L s₁.heap news ∧ h₀.IsTuple ax its ∧ its.size ≤ sizeLine ∧
    ∀ g, CompRest prog w A h₀ L m env elt x scope cl { s₁ with heap := g } (fun _ => True) (fun i v => its[i]? = some v) (Fin { s₁ with heap := g }) its.size 0 [] news
section
variable {prog : Program} {w : World} {A : Around} {E : Value → Shared → Prop} {s : Shared} {h₀ : Heap} {L : Addr} {m : Str → Option Value} {env : Env}
theorem srcT_base {elt : Expr} {x : Str} {scope : Scope} {cl : List (Str × Addr)} {Fin : Shared → List Value → List (Addr × Obj) → Prop} {ax : Addr} {its : Array Value} {news : List (Addr × Obj)} {s₁ : Shared}
    (hh : A.handled = none) (F : Fr h₀ L s₁.heap m) (N : News h₀ L s₁.heap news) (ht : IsTup h₀ ax its) (hsz : its.size ≤ sizeLine)
    (h : ∀ g, CompRest prog w A h₀ L m env elt x scope cl { s₁ with heap := g } (fun _ => True) (fun i v => its[i]? = some v) (Fin { s₁ with heap := g }) its.size 0 [] news) :
    SrcT prog w A h₀ L m env elt x scope cl Fin (.ref ax) s₁ := ⟨ax, its, news, rfl, hh, F, N, ht, hsz, h⟩
theorem ListComp_tup {elt iter : Expr} {x : Str} {px : Pos} {scope : Scope} {cl : List (Str × Addr)} {pos : Pos} {Q : Value → Shared → Prop} (F₀ : Fr h₀ L s.heap m)
    (hclos : closureFor scope env = pure cl) (hcell : ∀ y ∈ scope.names, y.2 ≠ .cell) (hkind : scope.kind = .function)
    (hnames : ∀ y ∈ scope.names, y.2 = .local → scope.names.lookup y.1 = some .local) (hx : scope.names.lookup x = some .local)
    (h : wpAny (model prog w) A (eval iter env) (SrcT prog w A h₀ L m env elt x scope cl (fun s₂ => FinE h₀ L m s₂ Q)) E s)
    (hs : ∀ x, foldedSetIterable iter env x = pure x := by intro _; rfl) :
    wpAny (model prog w) A (eval (.ListComp elt [⟨.Name x px, iter, [], 0⟩] scope pos) env) Q E s := by
  rw [eval_ListComp]
  refine wpAny_comprehension_free (use := none) rfl hs hclos hkind hnames (wpAny_mono h (fun xv s₁ h₁ => ?_) fun _ _ e => e)
  obtain ⟨ax, its, news, rfl, hh, F, N, ht, hsz, R⟩ := h₁
  have hl : s₁.heap.IsTuple ax its := by
    obtain ⟨o, e, r⟩ := ht
    exact ⟨o, F.keep _ _ e, r⟩
  have hlt : ax < s₁.heap.objs.size := by obtain ⟨_, e, _⟩ := hl; exact Heap.lt_size e
  have up : ∀ b o, s₁.heap.get? b = some o → (s₁.heap.push { cls := .type "tuple_iterator", data := .fields #[.ref ax, .int 0 0] }).get? b = some o := fun b o e => Heap.get?_push_of_some _ e
  refine wpAny_pyIter_tuple hl ?_
  refine block_U (S := fun _ => True) (Walks.tuple hh s₁.heap.objs.size ax (Nat.ne_of_lt hlt) its) hsz (fun i h st => by obtain ⟨o, e, _⟩ := st.1; exact ⟨o, e⟩) ?_ hcell hkind hx ⟨⟨_, Heap.get?_push_size _ rfl, rfl, rfl⟩, hl.push _⟩ (fun b hb => ?_)
    (F.keeps up) (N.grown up) (Nat.ne_of_lt F.ns.lt) (next_is_new F) (fun p hp => Nat.ne_of_lt (Heap.lt_size (N p hp).1)) trivial (R _) ?_
  · intro i h h' o nw st e e' k _ _
    refine ⟨?_, ?_⟩
    · obtain ⟨o', q, r⟩ := st.1
      rw [e] at q; cases q
      exact ⟨o, e', r⟩
    · obtain ⟨o', q, r⟩ := ht
      exact ⟨o', k _ _ q, r⟩
  · show b < (s₁.heap.push _).objs.size
    rw [Heap.size_push]
    rcases List.mem_cons.mp hb with rfl | hb
    · exact Nat.lt_succ_self _
    · rw [List.mem_singleton.mp hb]; exact Nat.lt_succ_of_lt hlt
  · intro D C h tk m' ys news' F' N' o1 hn hC₀ hD₀ hCL hDL hCD offC fin
    refine ⟨m', hn, fun h'' hs'' => fin D h'' tk (F'.change hs'' hCL hC₀) (fun p hp => ?_) o1⟩
    refine ⟨hs''.extBut _ _ ?_ (N' p hp).1, (N' p hp).2⟩
    rcases List.mem_cons.mp hp with rfl | hp
    · exact Ne.symm hCD
    · exact offC p hp
end
end Mine
namespace Mine
theorem jl1 (a b : Str) : (Txt.join a [b]).length = b.length := by
  unfold Txt.join
  rw [StrLaws.glued_eq_join]
  rfl
theorem jl2 (a b c : Str) : (Txt.join a [b, c]).length = b.length + a.length + c.length := by
  unfold Txt.join
  rw [StrLaws.glued_eq_join]
  show (b ++ a ++ Str.join a [c]).length = _
  rw [PySem.Str.length_append, PySem.Str.length_append]
  rfl
end Mine
end
section
open PySem PySem.W PySem.Spec PySem.Calls PyProof.Rows
set_option Elab.async false
set_option maxRecDepth 100000
set_option maxHeartbeats 4000000
namespace Mine
section
variable {prog : Program} {w : World} {A : Around} {s : Shared} {K : Frag} {h₀ : Heap} {R : Result → Shared → Prop} {name qual : Str} {params : Arguments} {body : List Stmt} {scope : Scope} {dV kV doc pm cdv ct oc : Value} {an od : Option Addr} {osl : Array (Option Value)} {f : Addr} {args : Args} {binds : List (Str × Value)}
/-- enter a def some of whose names are captured -/
theorem enter_newC (G : Grow h₀ s.heap) (hz : h₀.objs.size ≤ s.heap.objs.size) (X₀ : K.In h₀) (hlim : h₀.NoLimit)
    (ho : K.lookup f = some ⟨oc, od, .func (fnOf name qual params body scope dV kV doc pm an cdv ct), osl⟩) (hcd : codeIn K cdv qual = true) (hroom : A.depth < recursionLimit)
    (hbind : BindsTo s (fnOf name qual params body scope dV kV doc pm an cdv ct) args binds) (hkind : (binds.all fun y => scope.names.lookup y.1 == some .local || scope.names.lookup y.1 == some .cell) = true)
    (hnd : ((cellsFrom 0 scope.names []).map (·.1)).Nodup)
    (h : ∀ L' h₁ tk cells, Fr h₀ L' h₁ (bindL (envOfC qual scope L' f cdv).kindOf binds fun _ => none) → News h₀ L' h₁ cells → CellsAre (bindC (envOfC qual scope L' f cdv).kindOf binds fun _ => none) (cellsFrom (L' + 1) scope.names []) cells →
      wpAny (model prog w) (A.deeper (envOfC qual scope L' f cdv)) (execs body (envOfC qual scope L' f cdv)) (fun fl s' => R (.ok (.ret (match fl with | .ret v => v | _ => .none))) s') (fun _ _ => False) { s with heap := h₁, toks := tk })
    (hco : scope.isCoroutine = false) (hgen : scope.isGenerator = false) (hk : scope.kind = .function) : codeAny (model prog w) A (.call (.ref f) args) R s := by
  have X := X₀.keeps G
  refine codeAny_call_function hroom (X _ _ ho) rfl hco hgen rfl (codeRec_of X hcd) (hbind _ _ _ _ ?_)
  refine wpAny_newFunctionEnv_cells hk (kindsX hkind _) fun env' he s' x => ?_
  subst he
  refine ⟨(hlim.keeps G).keeps x.toInCall.keep, codeAny_func ?_⟩
  obtain ⟨h₁, tk, rfl, _⟩ := x.done
  have hk₁ := x.toInCall.keep
  obtain ⟨cells, NC, Y⟩ := Cl.news (h₀ := s.heap) (Nat.le_refl _) fun n c hm => ⟨x.cell n c (lookup_of_mem_nodup (cellsFrom_names scope.names 0 (s.heap.objs.size + 1) [] [] rfl ▸ hnd) hm), x.above n c hm⟩
  refine wpAny_mono (h s.heap.objs.size h₁ tk cells ⟨x.toInCall.ns, fun b o e => hk₁ b o (G b o e), hz⟩ (fun p hp => ⟨(NC p hp).1, (NC p hp).2.1, ?_⟩) Y) (fun _ _ z => z) fun _ _ z => z.elim
  cases q : h₀.get? p.1 with
  | none => rfl
  | some o => have := G _ _ q; rw [(NC p hp).2.2] at this; cases this
end
end Mine
end
section
open PySem PySem.W PySem.Calls PyProof.Rows
set_option Elab.async false
set_option maxRecDepth 100000
set_option maxHeartbeats 4000000
namespace Mine
/-- around, with whatever guards -/
def AN (d u : Nat) : Around := { handled := none, depth := d, frames := none, guards := none, units := u }
theorem weakenN {α : Type} {M : Model} {A : Around} {d u : Nat} {t : Sem α} {Q : α → Shared → Prop} {E : Value → Shared → Prop} {s : Shared} (h1 : A.handled = none) (h2 : A.depth ≤ d) (h3 : A.units ≤ u) (h : wpAny M (AN d u) t Q E s) : wpAny M A t Q E s :=
  fun Γ p hΓ => h Γ p ⟨hΓ.1.trans h1, Nat.le_trans hΓ.2.1 h2, (by intro _ e; cases e), (by intro g e; cases e), Nat.le_trans hΓ.2.2.2.2 h3⟩
/-- an attribute of an object reads so -/
def Gets (prog : Program) (w : World) (h : Heap) (e : Addr) (name : Str) (v : Value) : Prop := ∀ (A : Around) (s : Shared) (Q E : Value → Shared → Prop) (expr : Bool), Grow h s.heap → Q v { s with toks := s.toks + 1 } → wpAny (model prog w) A (getAttr (.ref e) name expr) Q E s
/-- str of an object -/
def StrOk (prog : Program) (w : World) (h : Heap) (e : Addr) (t : Str) : Prop := ∀ (A : Around) (s : Shared) (Q E : Value → Shared → Prop), A.handled = none → A.depth ≤ 850 → A.units ≤ 4200 → Grow h s.heap →
  (∀ h' u tk, Grow s.heap h' → Q (.str t u) { s with heap := h', toks := tk }) → wpAny (model prog w) A (call (.type "str") [.ref e]) Q E s
def clsB (K : Frag) (C f : Addr) : Bool := excGet K C && hasDictIn K C && (clsIn K C).isSome && (findIn K (.ref C) "args" == some (some (.builtin "BaseException.args"))) && (specialIn K (.builtin "BaseException.args") "__get__" == some (some (.builtin "getset_descriptor.__get__"))) && (takesIn K (.builtin "BaseException.args") == some true) && (findIn K (.ref C) "__str__" == some (some (.ref f))) && (findIn K (.ref C) "__repr__" == some (some (.ref f))) && isFn K (.ref f)
def nameB (K : Frag) (C : Addr) (name : Str) : Bool := match findIn K (.ref C) name with
  | some attr => noGet K attr
  | none => false
section
variable {prog : Program} {w : World} {A : Around} {E : Value → Shared → Prop} {s : Shared} {h₀ h h' : Heap} {L e d ta C f : Addr} {od : Obj} {m : Str → Option Value} {news : List (Addr × Obj)} {v : Value} {name t : Str} {Q : Value → Shared → Prop} {K : Frag}
theorem Gets.grow (g : Gets prog w h e name v) (k : Grow h h') : Gets prog w h' e name v := fun A s Q E x a b => g A s Q E x (k.trans a) b
theorem StrOk.grow (g : StrOk prog w h e t) (k : Grow h h') : StrOk prog w h' e t := fun A s Q E a b c d x => g A s Q E a b c (k.trans d) x
theorem gets_use {expr : Bool} (g : Gets prog w h₀ e name v) (F : Fr h₀ L s.heap m) (q : Q v { s with toks := s.toks + 1 }) : wpAny (model prog w) A (getAttr (.ref e) name expr) Q E s := g A s Q E expr F.keep q
theorem gets_field (X : K.In h) (he : h.get? e = some (excObj C (some d) ta)) (hd : h.get? d = some od) (c : clsB K C f = true) (n : nameB K C name = true) (hl : lookIn name od = some (some v)) (hv : handedIn v = true) : Gets prog w h e name v := by
  intro A s Q E x g q
  simp only [clsB, Bool.and_eq_true] at c
  unfold nameB at n
  split at n
  · rename_i attr ha
    exact exc_get (X.keeps g) ⟨g _ _ he, rfl, rfl, g _ _ hd⟩ c.1.1.1.1.1.1.1.1 (findObj_own c.1.1.1.1.1.1.1.2 ha n hl) hv q
  · cases n
theorem gets_args (X : K.In h) (he : h.get? e = some (excObj C (some d) ta)) (hd : h.get? d = some od) (c : clsB K C f = true) : Gets prog w h e "args" (.ref ta) := by
  intro A s Q E x g q
  simp only [clsB, Bool.and_eq_true, beq_iff_eq] at c
  exact exc_get_args (X.keeps g) ⟨g _ _ he, rfl, rfl, g _ _ hd⟩ c.1.1.1.1.1.1.1.1 (findObj_data c.1.1.1.1.1.1.2 c.1.1.1.1.1.2 c.1.1.1.1.2 c.1.1.1.2) q
theorem strOk_of (X : K.In h) (he : h.get? e = some (excObj C (some d) ta)) (hd : h.get? d = some od) (c : clsB K C f = true) (tl : Tells prog w h f e t) : StrOk prog w h e t := by
  intro A s Q E a1 a3 a4 g q
  simp only [clsB, Bool.and_eq_true, beq_iff_eq] at c
  exact kso_call (od := some od) (units_ok (Nat.add_le_add_right a4 2) (by decide +kernel)) (X.keeps g) ⟨g _ _ he, rfl, rfl, g _ _ hd⟩ c.1.1.2 c.2 (tl _ _ _ _ a1 (Nat.le_trans a3 (by decide)) (Nat.le_trans (Nat.add_le_add_right a4 2) (by decide)) g fun h' u tk g' => q h' u tk g')
theorem repErr_of (X : K.In h) (he : h.get? e = some (excObj C (some d) ta)) (hd : h.get? d = some od) (c : clsB K C f = true) (tl : Tells prog w h f e t) (hl : t.length ≤ 1000000) : Rep prog w h (.ref e) t := by
  simp only [clsB, Bool.and_eq_true, beq_iff_eq] at c
  exact rep_inst (od := some od) X ⟨he, rfl, rfl, hd⟩ c.1.2 c.2 tl hl
theorem str_use (c : StrOk prog w h₀ e t) (F : Fr h₀ L s.heap m) (N : News h₀ L s.heap news) (h1 : A.handled = none) (h3 : A.depth ≤ 850) (h4 : A.units ≤ 4200)
    (q : ∀ h' u tk, Fr h₀ L h' m → News h₀ L h' news → Q (.str t u) { s with heap := h', toks := tk }) : wpAny (model prog w) A (call (.type "str") [.ref e]) Q E s :=
  c A s Q E h1 h3 h4 F.keep fun h' u tk g => q h' u tk (fr_grow F g) (news_grow N g)
end
end Mine
end
section
open PySem PySem.W PySem.Calls PyProof.Rows PyProof.V
set_option Elab.async false
set_option maxRecDepth 100000
set_option maxHeartbeats 1000000
namespace Mine
section
variable {prog : Program} {w : World} {A : Around} {E : Value → Shared → Prop} {s : Shared} {h₀ : Heap} {L : Addr} {Q : Value → Shared → Prop} {a b : Addr} {news : List (Addr × Obj)}
/-- two lists that read alike are not unequal -/
theorem ne_alike {xs ys : List Value} {ds : List PyData} {n1 n2 : Nat} {as bs : List Addr} (N : News h₀ L s.heap news) (ha : (a, listOf xs.toArray n1) ∈ news) (hb : (b, listOf ys.toArray n2) ∈ news) (rx : ReadsAll s.heap xs ds as) (ry : ReadsAll s.heap ys ds bs)
    (hs : SeqAt.shaped (.list ds) = true) (hu : A.units + 64 < cLine) (he : PyData.eqvAll ds ds = true) (h : Q (.bool false) s) : wpAny (model prog w) A (compareOp .NotEq (.ref a) (.ref b)) Q E s :=
  ne_dataH (reads_list_at (N.get ha) rfl rfl (by simpa using rx)) (reads_list_at (N.get hb) rfl rfl (by simpa using ry)) hs hs hu (by rw [show PyData.eqv (.list ds) (.list ds) = true by simpa [PyData.eqv] using he]; exact h)
theorem reads_tup {h : Heap} {t : Addr} {vs : List Value} {ds : List PyData} {as : List Addr} {h₀ : Heap} {L : Addr} {news : List (Addr × Obj)} (N : News h₀ L h news) (ht : (t, ({ cls := .type "tuple", data := .seq vs.toArray } : Obj)) ∈ news) (r : ReadsAll h vs ds as) : Reads h (.ref t) (.tuple ds) as :=
  reads_tuple_at (N.get ht) rfl rfl (by simpa using r)
end
theorem strOk_app (a b : Str) : PyData.strOk (a ++ b) = (PyData.strOk a && PyData.strOk b) := by
  unfold PyData.strOk
  rw [PySem.Str.cps_append, Array.all_append]
theorem strOk_fig (n : Int) : PyData.strOk (fig2 n) = true := by
  unfold PyData.strOk fig2 numDigits
  simp only [List.all_toArray, List.all_append, Bool.and_eq_true, List.all_eq_true]
  refine ⟨fun x hx => ?_, ?_, fun x hx => ?_⟩
  · rw [(List.mem_replicate.mp hx).2]; decide
  · split <;> simp
  · obtain ⟨c, _, rfl⟩ := List.mem_map.mp hx
    have := c.valid
    have h2 : c.toNat < 0x110000 := by
      rcases this with h | h
      · exact Nat.lt_of_lt_of_le h (by decide)
      · exact h.2
    simpa using h2
end Mine
end
section
open PySem
set_option Elab.async false
set_option maxRecDepth 100000
set_option maxHeartbeats 4000000
set_option linter.unusedVariables false
namespace Mine
def key7 (ta tb : Str) : Str := Str.ofString "option " ++ ta ++ Str.ofString " in section " ++ tb ++ Str.ofString " contains an interpolation key "
/-- the law's own texts, by kind -/
def msgs7 (ta tb tc : Str) : List Str := [Str.ofString "No section: " ++ ta, Str.ofString "No option " ++ ta ++ Str.ofString " in section: " ++ tb,
  Str.ofString "While reading from " ++ tb ++ Str.ofString ": section " ++ ta ++ Str.ofString " already exists",
  Str.ofString "While reading from " ++ tc ++ Str.ofString ": option " ++ tb ++ Str.ofString " in section " ++ ta ++ Str.ofString " already exists",
  Str.ofString "Bad value substitution: " ++ key7 ta tb ++ ta ++ Str.ofString " which is not a valid option name. Raw value: " ++ tc,
  Str.ofString "Recursion limit exceeded in value substitution: " ++ key7 ta tb ++ Str.ofString "which cannot be substituted in 10 steps. Raw value: " ++ tc]
def msg7 (k : Nat) (ta tb tc : Str) : Str := (msgs7 ta tb tc).getD k default
theorem six7 {k : Int} (h0 : 0 ≤ k) (h6 : k < 6) : k = 0 ∨ k = 1 ∨ k = 2 ∨ k = 3 ∨ k = 4 ∨ k = 5 := by omega
theorem pick7 {k : Int} (h0 : 0 ≤ k) (h6 : k < 6) (ta tb tc : Str) (u0 u1 u2 u3 u4 u5 : Tok) : ∃ u, ([PySem.Value.str (Str.ofString "No section: " ++ ta) u0, .str (Str.ofString "No option " ++ ta ++ Str.ofString " in section: " ++ tb) u1,
  .str (Str.ofString "While reading from " ++ tb ++ Str.ofString ": section " ++ ta ++ Str.ofString " already exists") u2,
  .str (Str.ofString "While reading from " ++ tc ++ Str.ofString ": option " ++ tb ++ Str.ofString " in section " ++ ta ++ Str.ofString " already exists") u3,
  .str (Str.ofString "Bad value substitution: " ++ key7 ta tb ++ ta ++ Str.ofString " which is not a valid option name. Raw value: " ++ tc) u4,
  .str (Str.ofString "Recursion limit exceeded in value substitution: " ++ key7 ta tb ++ Str.ofString "which cannot be substituted in 10 steps. Raw value: " ++ tc) u5] : List PySem.Value)[k.toNat]? = some (.str (msg7 k.toNat ta tb tc) u) := by
  rcases six7 h0 h6 with rfl | rfl | rfl | rfl | rfl | rfl
  · exact ⟨u0, rfl⟩
  · exact ⟨u1, rfl⟩
  · exact ⟨u2, rfl⟩
  · exact ⟨u3, rfl⟩
  · exact ⟨u4, rfl⟩
  · exact ⟨u5, rfl⟩
end Mine
end
section
open PySem PySem.W PySem.Calls PyProof.Rows
set_option Elab.async false
set_option maxRecDepth 100000
set_option maxHeartbeats 4000000
set_option linter.unusedVariables false
namespace Mine
def its7 : Str := Str.ofString "it's"
/-- the whole numbers of a name -/
def Few (ns : List Int) : Prop := ns.length ≤ 5 ∧ ∀ x ∈ ns, x.natAbs < 1000
/-- a heap holds a name of the law, which is d -/
inductive V7 (h : Heap) : Value → PyData → Prop
  | str (t : Tok) : V7 h (.str its7 t) (.str its7)
  | list {a : Addr} {vs : List Value} {ns : List Int} {n : Nat} : h.get? a = some (listOf vs.toArray n) → a ≠ 1 → IntsAre vs ns → Few ns → V7 h (.ref a) (.list (ns.map .int))
  | tup {a b : Addr} {vs : List Value} {ns : List Int} {n : Nat} : h.get? b = some (tupObj [.ref a]) → h.get? a = some (listOf vs.toArray n) → a ≠ 1 → IntsAre vs ns → Few ns → V7 h (.ref b) (.tuple [.list (ns.map .int)])
section
variable {h h' : Heap} {v : Value} {d : PyData}
theorem V7.mono (x : V7 h v d) (g : Grow h h') : V7 h' v d := by
  cases x with
  | str t => exact .str t
  | list a b c e => exact .list (g _ _ a) b c e
  | tup a b c e f => exact .tup (g _ _ a) (g _ _ b) c e f
theorem ints_reads {h : Heap} : ∀ {vs : List Value} {ns : List Int}, IntsAre vs ns → ReadsAll h vs (ns.map .int) [] := by
  intro vs ns x
  exact x.reads h
theorem V7.reads (x : V7 h v d) : ∃ as, Reads h v d as ∧ (1 : Addr) ∉ as := by
  cases x with
  | str t => exact ⟨[], .str _ t, fun h => nomatch h⟩
  | list a b c e => exact ⟨_ :: [], .list a rfl rfl (by simpa using ints_reads c), fun hm => b (List.mem_singleton.mp hm).symm⟩
  | tup a b c e f => exact ⟨_, .tuple a rfl rfl (by simpa using ReadsAll.cons (.list b rfl rfl (by simpa using ints_reads e)) .nil), fun hm => by simp at hm; exact c hm.symm⟩
theorem few_show {ns : List Int} (f : Few ns) : PyData.showableAll (ns.map .int) = true := by
  replace f := f.2
  induction ns with
  | nil => rfl
  | cons x xs ih =>
    simp only [List.map_cons, PyData.showableAll, PyData.showable, Bool.and_eq_true, decide_eq_true_eq]
    exact ⟨log2_ok (Nat.lt_trans (f x (.head _)) (by decide)), ih fun y hy => f y (.tail _ hy)⟩
theorem V7.show (x : V7 h v d) : d.showable = true := by
  cases x with
  | str t => rfl
  | list a b c e => simp only [PyData.showable]; exact few_show e
  | tup a b c e f => simp only [PyData.showable, PyData.showableAll, Bool.and_true]; exact few_show f
theorem V7.depth (x : V7 h v d) : d.depth ≤ 2 := by
  have hl : ∀ ns : List Int, PyData.depthAll (ns.map .int) = 0 := fun ns => by
    induction ns with
    | nil => rfl
    | cons x xs ih => simp only [List.map_cons, PyData.depthAll, PyData.depth, ih]; rfl
  cases x with
  | str t => exact Nat.zero_le _
  | list a b c e => simp only [PyData.depth, hl]; decide
  | tup a b c e f => simp only [PyData.depth, PyData.depthAll, hl]; decide
end
end Mine
end
section
open PySem PySem.W PySem.Calls PyProof.Rows
set_option Elab.async false
set_option maxRecDepth 100000
set_option maxHeartbeats 4000000
set_option linter.unusedVariables false
namespace Mine
theorem room_ {x y : Nat} (h : x ≤ 650) : (AD x y).depth < recursionLimit := Nat.lt_of_le_of_lt h (Nat.le_of_ble_eq_true rfl)
section
variable {prog : Program} {w : World} {A : Around} {E : Value → Shared → Prop} {s : Shared} {env : Env} {h₀ : Heap} {L : Addr} {m : Str → Option Value} {news : List (Addr × Obj)} {Q : Value → Shared → Prop}
/-- a contract that gives a text back -/
theorem txt_use {f : Value} {vs : List Value} {t : Str} {d u : Nat} (c : ∀ Q E, (∀ h' tk u, Grow s.heap h' → Q (.str t u) { s with heap := h', toks := tk }) → wpAny (model prog w) (AD d u) (call f vs) Q E s)
    (F : Fr h₀ L s.heap m) (N : News h₀ L s.heap news) (h1 : A.handled = none) (h2 : A.guards = some []) (h3 : A.depth ≤ d) (h4 : A.units ≤ u)
    (h : ∀ h' tk u, Fr h₀ L h' m → News h₀ L h' news → Q (.str t u) { s with heap := h', toks := tk }) : wpAny (model prog w) A (call f vs) Q E s :=
  weaken h1 h2 h3 h4 (c Q E fun h' tk u g => h h' tk u (fr_grow F g) (news_grow N g))
/-- a comprehension over a list whose length is not known -/
theorem comp_rec2 {elt : Expr} {x : Str} {scope : Scope} {cl : List (Str × Addr)} {S : List (Addr × Obj) → Prop} {P : Nat → Value → Prop} {Fin : List Value → List (Addr × Obj) → Prop} {n : Nat} {news : List (Addr × Obj)} (J : Nat → List Value → Prop)
    (h0 : J 0 []) (hS : S news)
    (turn : ∀ i v ys I oI C oC D m₂ h tk (E' : Value → Shared → Prop), i < n → J i ys → P i v → LCg.NsObj oC m₂ → m₂ x = some v → Fr h₀ L h m → News h₀ L h ((I, oI) :: (C, oC) :: (D, LCg.lst ys) :: news) → LCg.Off3 I C D news → ((@Ne Nat I C) ∧ (@Ne Nat I D) ∧ (@Ne Nat C D)) →
      ∀ Q' : Value → Shared → Prop, (∀ y h' tk', J (i + 1) (ys ++ [y]) → Fr h₀ L h' m → News h₀ L h' ((I, oI) :: (C, oC) :: (D, LCg.lst ys) :: news) → Q' y { s with heap := h', toks := tk' }) →
      wpAny (model prog w) A (eval elt (compEnvC scope cl C env)) Q' E' { s with heap := h, toks := tk })
    (fin : ∀ ys, J n ys → Fin ys news) : LCg.CompRest prog w A h₀ L m env elt x scope cl s S P Fin n 0 [] news := by
  have key : ∀ (j i : Nat) (ys : List Value), i + j = n → J i ys → LCg.CompRest prog w A h₀ L m env elt x scope cl s S P Fin j i ys news := by
    intro j
    induction j with
    | zero =>
      intro i ys e hj
      obtain rfl : i = n := by omega
      exact LCg.CompRest.zero (fin ys hj)
    | succ j ih =>
      intro i ys e hj
      refine LCg.CompRest.succ ?_
      intro v I oI C oC D m₂ h tk E' hv hC hx F N off ne
      refine turn i v ys I oI C oC D m₂ h tk E' (by omega) hj hv hC hx F N off ne _ fun y h' tk' hj' F' N' => ?_
      exact ⟨h', tk', news, rfl, F', N', off, hS, ih (i + 1) (ys ++ [y]) (by omega) hj'⟩
  exact key n 0 [] (by omega) h0
end
/-- the texts of the values -/
def TxtsAre (ys : List Value) (ts : List Str) : Prop := StrsAre ys ts
theorem strs_snoc2 : ∀ {vs : List Value} {xs : List Str} {y : Str} {t : Tok}, StrsAre vs xs → StrsAre (vs ++ [.str y t]) (xs ++ [y])
  | _, _, y, t, .nil => .cons y t .nil
  | _, _, y, t, .cons z u h => .cons z u (strs_snoc2 h)
theorem all_at : ∀ {ds : List PyData} {i : Nat} {d : PyData}, ds[i]? = some d → (PyData.shownAll ds)[i]? = some d.shown
  | _ :: _, 0, _, e => by cases e; rfl
  | _ :: ds, i + 1, d, e => by
    have := all_at (ds := ds) (i := i) (d := d) (by simpa using e)
    simpa [PyData.shownAll] using this
theorem all_len : ∀ {ds : List PyData}, (PyData.shownAll ds).length = ds.length
  | [] => rfl
  | _ :: ds => by simp [PyData.shownAll, all_len (ds := ds)]
theorem sum_small {k : Nat} : ∀ {ts : List Str}, (∀ t ∈ ts, t.length ≤ k) → (ts.map (·.length)).sum ≤ ts.length * k
  | [], _ => by simp
  | t :: ts, h => by
    have h1 := h t (.head _)
    have h2 := sum_small (ts := ts) fun u hu => h u (.tail _ hu)
    rw [List.map_cons, List.sum_cons, List.length_cons, Nat.succ_mul]
    omega
theorem txt_join (sep : Str) (ts : List Str) : Txt.join sep ts = Str.join sep ts := by
  unfold Txt.join
  exact StrLaws.glued_eq_join _ _
theorem list_text (ts : List Str) : (Str.ofString "[" ++ Txt.join (Str.ofString ", ") ts) ++ Str.ofString "]" = listText ts := by
  rw [listText_eq_join, txt_join]
theorem tup_text (ts : List Str) (h : ts.length ≠ 1) : (Str.ofString "(" ++ Txt.join (Str.ofString ", ") ts) ++ Str.ofString ")" = tupleText ts := by
  rw [txt_join]; unfold tupleText
  rw [if_neg (by simpa using h)]
theorem tup_text1 (ts : List Str) (h : ts.length = 1) : (Str.ofString "(" ++ Txt.join (Str.ofString ", ") ts) ++ Str.ofString ",)" = tupleText ts := by
  rw [txt_join]; unfold tupleText
  rw [if_pos (by simpa using h)]
end Mine
namespace Mine
theorem piled_small {k : Nat} : ∀ {ts : List Str}, (∀ t ∈ ts, t.length ≤ k) → piled ts ≤ ts.length * (k + 2)
  | [], _ => by simp [piled]
  | t :: ts, h => by
    have h1 := h t (.head _)
    have h2 := piled_small (ts := ts) fun u hu => h u (.tail _ hu)
    rw [piled_cons, List.length_cons, Nat.succ_mul]
    omega
theorem join_small {ts : List Str} (h : ∀ t ∈ ts, t.length ≤ 5000) (hl : ts.length ≤ 50) : (Txt.join (Str.ofString ", ") ts).length ≤ 300000 := by
  rw [txt_join]
  by_cases e : ts = []
  · subst e; decide
  · have h1 := join_length_add ts e
    have h2 := piled_small h
    have h3 : ts.length * (5000 + 2) ≤ 50 * 5002 := Nat.mul_le_mul_right _ hl
    have h4 : (Str.join (Str.ofString ", ") ts).length = (Str.join ", " ts).length := rfl
    omega
end Mine
namespace Mine
theorem dict_text (ts : List Str) : (Str.ofString "{" ++ Txt.join (Str.ofString ", ") ts) ++ Str.ofString "}" = dictText ts := by
  rw [txt_join]; rfl
theorem ints_at : ∀ {vs : List Value} {ns : List Int} {i : Nat} {v : Value}, IntsAre vs ns → vs[i]? = some v → ∃ x t, v = .int x t ∧ ns[i]? = some x
  | _, _, i, v, .nil, e => by simp at e
  | _, _, 0, v, .cons x t _, e => by cases e; exact ⟨x, t, rfl, rfl⟩
  | _, _, i + 1, v, .cons x t h, e => by
    obtain ⟨y, u, a, b⟩ := ints_at (i := i) h (by simpa using e)
    exact ⟨y, u, a, by simpa using b⟩
theorem few_short {ns : List Int} (f : Few ns) : ∀ t ∈ PyData.shownAll (ns.map .int), t.length ≤ 5000 := by
  have key : ∀ {l : List Int}, (∀ x ∈ l, x.natAbs < 1000) → ∀ t ∈ PyData.shownAll (l.map .int), t.length ≤ 5000 := by
    intro l
    induction l with
    | nil => intro _ t ht; simp [PyData.shownAll] at ht
    | cons x xs ih =>
      intro h t ht
      simp only [List.map_cons, PyData.shownAll, List.mem_cons] at ht
      rcases ht with rfl | ht
      · have h1 := len_str_of_int x
        have h2 := h x (.head _)
        show (Str.ofString (toString x)).length ≤ 5000
        omega
      · exact ih (fun y hy => h y (.tail _ hy)) t ht
  exact key f.2
end Mine
end
section
open PySem PySem.W PySem.Spec PySem.Calls PyProof.Rows PyProof.Rows.LCg
set_option Elab.async false
set_option maxRecDepth 100000
set_option maxHeartbeats 4000000
set_option linter.unusedVariables false
namespace Mine
section
variable {prog : Program} {w : World} {A : Around} {E : PySem.Value → Shared → Prop} {s : Shared} {h₀ : Heap} {L : Addr} {m : PySem.Str → Option PySem.Value} {env : Env}
/-- one turn of a comprehension over pairs, whose test fails -/
def TurnN (prog : Program) (w : World) (A : Around) (h₀ : Heap) (L : Addr) (m : PySem.Str → Option PySem.Value) (env : Env) (ct : PySem.Expr) (x x₂ : PySem.Str) (scope : Scope) (cl : List (PySem.Str × Addr)) (s : Shared) (news : List (Addr × Obj)) (v : PySem.Value) : Prop :=
  ∃ t v₁ v₂, v = .ref t ∧ (t, tupObj [v₁, v₂]) ∈ news ∧ ∀ I oI C oC D m₂ h tk (E' : PySem.Value → Shared → Prop), NsObj oC m₂ → m₂ x = some v₁ → m₂ x₂ = some v₂ → Fr h₀ L h m → News h₀ L h ((I, oI) :: (C, oC) :: (D, lst []) :: news) → Off3 I C D news → ((@Ne Nat I C) ∧ (@Ne Nat I D) ∧ (@Ne Nat C D)) →
    ∀ Q' : Bool → Shared → Prop, (∀ h' tk', Fr h₀ L h' m → News h₀ L h' ((I, oI) :: (C, oC) :: (D, lst []) :: news) → Q' false { s with heap := h', toks := tk' }) → wpAny (model prog w) A (isTrue ct (compEnvC scope cl C env) (eval ct (compEnvC scope cl C env))) Q' E' { s with heap := h, toks := tk }
theorem block_N {ct elt iter : PySem.Expr} {x x₂ : PySem.Str} {px px₂ tp : Pos} {tk} {scope : Scope} {cl : List (PySem.Str × Addr)} {pos : Pos} {s₂ : Shared} {I : Addr} {fp : List Addr} {n : Nat} {P : Nat → PySem.Value → Prop} {St : Nat → Heap → Prop} {news : List (Addr × Obj)} {RR : PySem.Value → Addr → Result → Shared → Prop}
    (W : Walks prog w A I fp [I] n P St) (hIo : ∀ i h, St i h → ∃ o, h.get? I = some o)
    (hSt : ∀ i h h' o, St i h → h.get? I = some o → h'.get? I = some o → (∀ b o, h₀.get? b = some o → h'.get? b = some o) → News h₀ L h' news → St i h')
    (hcell : ∀ y ∈ scope.names, y.2 ≠ .cell) (hkind : scope.kind = .function) (hx : scope.names.lookup x = some .local) (hx₂ : scope.names.lookup x₂ = some .local) (hxx : x ≠ x₂) (hh : A.handled = none) (hLI : ∀ i h, St i h → ∃ l j, h.IsListIter I l j) (hst : St 0 s₂.heap) (hfp : ∀ b ∈ fp, b < s₂.heap.objs.size)
    (F : Fr h₀ L s₂.heap m) (N : News h₀ L s₂.heap news) (hIL : L ≠ I) (hI₀ : h₀.get? I = none) (off : ∀ p ∈ news, p.1 ≠ I)
    (T : ∀ i v, P i v → TurnN prog w A h₀ L m env ct x x₂ scope cl s₂ news v)
    (hRR : ∀ D C h tk m', Fr h₀ L h m → News h₀ L h ((D, lst []) :: news) → Off1 D news → h.Ns C m' → h₀.get? C = none → h₀.get? D = none → C ≠ L → D ≠ L → C ≠ D → (∀ p ∈ news, p.1 ≠ C) → RR (.ref D) C (.ok .next) { s₂ with heap := h, toks := tk }) :
    wpAny (model prog w) A (newList []) (fun acc s₃ => wpAny (model prog w) A (newFunctionEnv scope env.globals cl [] env.qual none .none (some env)) (fun cenv s₄ =>
      codeAny (model prog w) A (.compStart (.ListComp elt [⟨.Tuple [.Name x px, .Name x₂ px₂] tk tp, iter, [ct], 0⟩] scope pos) 0 (.ref I) acc { cenv with scope := relabel scope env }) (RR acc cenv.locals) s₄) E s₃) E s₂ := by
  refine wpAny_newObj_type (wpAny_newFunctionEnv hcell (by intro y hy; simp at hy) (fun h₁ hns₁ hsb₁ => ?_) hkind)
  dsimp only at hns₁ hsb₁ ⊢
  generalize hH2 : s₂.heap.push { cls := .type "list", dict := none, data := .seq ([] : List PySem.Value).toArray } = H2 at hns₁ hsb₁ ⊢
  have hC : H2.objs.size = s₂.heap.objs.size + 1 := by rw [← hH2, Heap.size_push]
  have hDC : s₂.heap.objs.size ≠ H2.objs.size := by rw [hC]; exact Nat.ne_of_lt (Nat.lt_succ_self _)
  have below : ∀ b, b < s₂.heap.objs.size → b ≠ H2.objs.size ∧ b ≠ s₂.heap.objs.size := fun b hb => ⟨by rw [hC]; exact Nat.ne_of_lt (Nat.lt_succ_of_lt hb), Nat.ne_of_lt hb⟩
  have hCf : H2.objs.size ∉ fp := fun hm => by have := hfp _ hm; rw [hC] at this; exact Nat.lt_irrefl _ (Nat.lt_of_succ_lt this)
  have hIlt : I < s₂.heap.objs.size := hfp I (W.sub I (List.mem_singleton.mpr rfl))
  have old : ∀ b o, s₂.heap.get? b = some o → h₁.get? b = some o := fun b o e => hsb₁.extBut b o (below b (Heap.lt_size e)).1 (Heap.get?_push_of_some _ (hH2 ▸ Heap.get?_push_of_some _ e))
  have hacc : h₁.get? s₂.heap.objs.size = some (lst []) := hsb₁.extBut _ _ hDC (Heap.get?_push_of_some _ (hH2 ▸ Heap.get?_push_size _ rfl))
  have hst₁ : St 0 h₁ := W.frame _ _ _ hst fun b _ o e => old b o e
  have fresh₀ : ∀ a, s₂.heap.objs.size ≤ a → h₀.get? a = none := fun a ha => by
    cases e : h₀.get? a with
    | none => rfl
    | some o' => exact absurd (Heap.lt_size (F.keep a o' e)) (Nat.not_lt.mpr ha)
  have hD₀ : h₀.get? s₂.heap.objs.size = none := fresh₀ _ (Nat.le_refl _)
  have hC₀ : h₀.get? H2.objs.size = none := fresh₀ _ (by rw [hC]; exact Nat.le_succ _)
  have hLlt : L < s₂.heap.objs.size := F.ns.lt
  have hDL : s₂.heap.objs.size ≠ L := Ne.symm (below L hLlt).2
  have hCL : H2.objs.size ≠ L := Ne.symm (below L hLlt).1
  have hCI : I ≠ H2.objs.size := (below I hIlt).1
  have hDI : I ≠ s₂.heap.objs.size := (below I hIlt).2
  have off₀ : Off3 I H2.objs.size s₂.heap.objs.size news := Off3.of fun p hp => ⟨off p hp, (below _ (Heap.lt_size (N p hp).1)).1, (below _ (Heap.lt_size (N p hp).1)).2⟩
  have off3 := off₀.mem
  have hDn : ∀ p ∈ (s₂.heap.objs.size, lst []) :: news, p.1 ≠ I := fun p hp => by
    rcases List.mem_cons.mp hp with rfl | hp
    · exact Ne.symm hDI
    · exact (off3 p hp).1
  have loop : ∀ s₃ : Shared, s₃ = { s₂ with heap := h₁, toks := s₂.toks + ([] : List (PySem.Str × PySem.Value)).length } →
      codeAny (model prog w) A (.compLoop (.ListComp elt [⟨.Tuple [.Name x px, .Name x₂ px₂] tk tp, iter, [ct], 0⟩] scope pos) 0 (.ref I) (.ref s₂.heap.objs.size) (compEnvC scope cl H2.objs.size env))
        (RR (.ref s₂.heap.objs.size) H2.objs.size) s₃ := by
    rintro s₃ rfl
    refine PySem.W.kct_loop
      (fun k s' => ∃ h' tk i m', s' = { s₂ with heap := h', toks := tk } ∧ i ≤ n ∧ k = n + 1 - i ∧ St i h' ∧ Fr h₀ L h' m ∧ h'.Ns H2.objs.size m' ∧ News h₀ L h' ((s₂.heap.objs.size, lst []) :: news)) ?_ (n + 1)
      ⟨h₁, _, 0, _, rfl, Nat.zero_le _, rfl, hst₁, F.keeps old, hns₁, fun p hp => ?_⟩
    · rintro k s' ⟨h', tk, i, m', rfl, hi, rfl, hst', F', hn', N'⟩
      by_cases hlt : i < n
      · refine W.item i _ _ _ hlt hst' fun v h₂ tk₂ hPv hst₂ hk₂ => ?_
        obtain ⟨t, v₁, v₂, rfl, hmt, R⟩ := T i v hPv
        have N₂ : News h₀ L h₂ ((s₂.heap.objs.size, lst []) :: news) := news_but N' hk₂ hDn
        have ht : IsTup h₂ t #[v₁, v₂] := ⟨_, (N₂ _ (List.mem_cons_of_mem _ hmt)).1, rfl, _, rfl⟩
        obtain ⟨lI, jI, hLi⟩ := hLI _ _ hst₂
        refine wpAny_letOwnedTupleGo_listiter hLi ?_
        refine assign_Tuple_tuple hh ht rfl rfl fun h₅ he => ?_
        have he' : ∀ b o, h₂.get? b = some o → h₅.get? b = some o := fun b o e => he b o (Nat.ne_of_lt (Heap.lt_size e)) e
        refine assignInOrder_cons (wpAny_assign_Name (wpAny_storeName_local (lookup_relabel_local hx) ((hn'.at' fun o e => hk₂ _ o (by simpa using Ne.symm hCI) e).at' fun o e => he' _ o e) (fun h₆ hn₆ hs₆ => ?_) (by simp [compEnvC, relabel, hkind])))
        refine assignInOrder_cons (wpAny_assign_Name (wpAny_storeName_local (lookup_relabel_local hx₂) hn₆ (fun h₃ hn₃ hs₃ => ?_) (by simp [compEnvC, relabel, hkind])))
        refine assignInOrder_nil ?_
        have old3 : ∀ b o, b ≠ H2.objs.size → h₂.get? b = some o → h₃.get? b = some o := fun b o hb e => hs₃.extBut b o hb (hs₆.extBut b o hb (he' b o e))
        have hst₃ : St (i + 1) h₃ := W.frame _ _ _ hst₂ fun b hb o e => old3 b o (fun q => hCf (by rw [← q]; exact hb)) e
        obtain ⟨oI, heI⟩ := hIo _ _ hst₃
        obtain ⟨oC, heC, hoC⟩ := ns_obj hn₃
        have F₃ : Fr h₀ L h₃ m := (((fr_but F' hk₂ hIL hI₀).keeps he').change hs₆ hCL hC₀).change hs₃ hCL hC₀
        have N₃ : News h₀ L h₃ ((I, oI) :: (H2.objs.size, oC) :: (s₂.heap.objs.size, lst []) :: news) := fun p hp => by
          rcases List.mem_cons.mp hp with rfl | hp
          · exact ⟨heI, Ne.symm hIL, hI₀⟩
          · rcases List.mem_cons.mp hp with rfl | hp
            · exact ⟨heC, hCL, hC₀⟩
            · have z := N₂ p hp
              refine ⟨old3 _ _ ?_ z.1, z.2⟩
              rcases List.mem_cons.mp hp with rfl | hp
              · exact hDC
              · exact (off3 p hp).2.1
        refine R I oI H2.objs.size oC s₂.heap.objs.size _ h₃ _ _ hoC (by simp [hxx]) (by simp) F₃ N₃ off₀ ⟨hCI, hDI, Ne.symm hDC⟩ _ fun h₄ tk₄ F₄ N₄ => ?_
        have zI := (N₄ (I, oI) List.mem_cons_self).1
        have zC := (N₄ (H2.objs.size, oC) (List.mem_cons_of_mem _ List.mem_cons_self)).1
        have N₄' : News h₀ L h₄ ((s₂.heap.objs.size, lst []) :: news) := fun p hp => N₄ p (List.mem_cons_of_mem _ (List.mem_cons_of_mem _ hp))
        rw [if_neg Bool.false_ne_true]
        exact ⟨n + 1 - (i + 1), by omega, h₄, tk₄, i + 1, _, rfl, hlt, rfl, hSt _ _ _ _ hst₃ heI zI F₄.keep (fun p hp => N₄' p (List.mem_cons_of_mem _ hp)), F₄, hoC.ns zC, N₄'⟩
      · obtain rfl : i = n := Nat.le_antisymm hi (Nat.not_lt.mp hlt)
        refine W.done _ _ _ hst' fun h₂ tk₂ hk₂ => ?_
        exact hRR _ _ h₂ tk₂ _ (fr_but F' hk₂ hIL hI₀) (news_but N' hk₂ hDn) off₀.one (hn'.at' fun o e => hk₂ _ o (by simpa using Ne.symm hCI) e) hC₀ hD₀ hCL hDL (Ne.symm hDC) (fun p hp => (off3 p hp).2.1)
    · rcases List.mem_cons.mp hp with rfl | hp
      · exact ⟨hacc, hDL, hD₀⟩
      · exact ⟨old _ _ (N p hp).1, (N p hp).2⟩
  exact codeAny_compStart_list (loop _ rfl) (W.self 0 _ _ _ hst₁ (loop _ rfl))
/-- a comprehension over pairs of the ledger, whose test always fails: the empty list -/
def SrcN (prog : Program) (w : World) (A : Around) (h₀ : Heap) (L : Addr) (m : PySem.Str → Option PySem.Value) (env : Env) (ct : PySem.Expr) (x x₂ : PySem.Str) (scope : Scope) (cl : List (PySem.Str × Addr)) (Q : PySem.Value → Shared → Prop) (xv : PySem.Value) (s₁ : Shared) : Prop :=
  ∃ (ax : Addr) (vs : Array PySem.Value) (k : Nat) (news : List (Addr × Obj)), xv = .ref ax ∧ A.handled = none ∧ Fr h₀ L s₁.heap m ∧ News h₀ L s₁.heap news ∧ (ax, listOf vs k) ∈ news ∧
    (∀ (g : Heap) (i : Nat) (v : PySem.Value), vs[i]? = some v → TurnN prog w A h₀ L m env ct x x₂ scope cl { s₁ with heap := g } news v) ∧ ∀ D h tk, Fr h₀ L h m → News h₀ L h ((D, lst []) :: news) → Q (.ref D) { s₁ with heap := h, toks := tk }
theorem ListComp_N {ct elt iter : PySem.Expr} {x x₂ : PySem.Str} {px px₂ tp : Pos} {tk} {scope : Scope} {cl : List (PySem.Str × Addr)} {pos : Pos} {Q : PySem.Value → Shared → Prop} (F₀ : Fr h₀ L s.heap m)
    (hclos : closureFor scope env = pure cl) (hcell : ∀ y ∈ scope.names, y.2 ≠ .cell) (hkind : scope.kind = .function)
    (hnames : ∀ y ∈ scope.names, y.2 = .local → scope.names.lookup y.1 = some .local) (hx : scope.names.lookup x = some .local) (hx₂ : scope.names.lookup x₂ = some .local) (hxx : x ≠ x₂)
    (h : wpAny (model prog w) A (eval iter env) (SrcN prog w A h₀ L m env ct x x₂ scope cl Q) E s)
    (hs : ∀ x, foldedSetIterable iter env x = pure x := by intro _; rfl) :
    wpAny (model prog w) A (eval (.ListComp elt [⟨.Tuple [.Name x px, .Name x₂ px₂] tk tp, iter, [ct], 0⟩] scope pos) env) Q E s := by
  rw [eval_ListComp]
  refine wpAny_comprehension_free (use := none) rfl hs hclos hkind hnames (wpAny_mono h (fun xv s₁ h₁ => ?_) fun _ _ e => e)
  obtain ⟨ax, vs, k, news, rfl, hh, F, N, hm, T, R⟩ := h₁
  have hl : s₁.heap.IsList ax vs := ⟨_, (N _ hm).1, rfl, k, rfl⟩
  have hlt : ax < s₁.heap.objs.size := Heap.lt_size (N _ hm).1
  refine wpAny_pyIter_list hl ?_
  have up : ∀ b o, s₁.heap.get? b = some o → (s₁.heap.push { cls := .type "list_iterator", data := .fields #[.ref ax, .int 0 0] }).get? b = some o := fun b o e => Heap.get?_push_of_some _ e
  refine block_N (Walks.list hh s₁.heap.objs.size ax (Nat.ne_of_lt hlt) vs) (fun i h st => by obtain ⟨o, e, _⟩ := st.1; exact ⟨o, e⟩) (fun i h h' o st e1 e2 _ n' => ?_) hcell hkind hx hx₂ hxx hh (fun i h st => ⟨_, _, st.1⟩) ⟨⟨_, Heap.get?_push_size _ rfl, rfl, rfl⟩, hl.push _⟩ (fun b hb => ?_)
      (F.keeps up) (N.grown up) (Nat.ne_of_lt F.ns.lt) (next_is_new F) (fun p hp => Nat.ne_of_lt (Heap.lt_size (N p hp).1)) (fun i v hv => T _ i v hv) ?_
  · obtain ⟨⟨o', e', r⟩, _⟩ := st
    rw [e1] at e'
    obtain rfl := Option.some.inj e'
    exact ⟨⟨o, e2, r⟩, ⟨_, (n' _ hm).1, rfl, k, rfl⟩⟩
  · show b < (s₁.heap.push _).objs.size
    rw [Heap.size_push]
    rcases List.mem_cons.mp hb with rfl | hb
    · exact Nat.lt_succ_self _
    · rw [List.mem_singleton.mp hb]; exact Nat.lt_succ_of_lt hlt
  · intro D C h tk m' F' N' o1 hn hC₀ hD₀ hCL hDL hCD offC
    refine ⟨m', hn, fun h'' hs'' => R D h'' tk (F'.change hs'' hCL hC₀) (fun p hp => ?_)⟩
    refine ⟨hs''.extBut _ _ ?_ (N' p hp).1, (N' p hp).2⟩
    rcases List.mem_cons.mp hp with rfl | hp
    · exact Ne.symm hCD
    · exact offC p hp
end
end Mine
end
section
open PySem PySem.W PySem.W.X PySem.W.ZRun PyProof.Rows
set_option Elab.async false
set_option maxRecDepth 100000
set_option maxHeartbeats 0
namespace Mine
def topRunT (tb : String → Option Builtin) (p : Program) (w : World) (n₀ : Nat) (ann : Option Value) : Nat → SharedT → Thread → Option SharedT
  | 0, _, _ => none
  | n + 1, s, t => match through t with
    | true => some s
    | false => match stepOk n₀ ann t with
      | false => none
      | true => match stepT (denote tb) p w s t with
        | some (s', t') => topRunT tb p w n₀ ann n s' t'
        | none => none
theorem topRunT_of {tb : String → Option Builtin} {p : Program} {w : World} {n₀ : Nat} {ann : Option Value} : ∀ {n : Nat} {s s' : SharedT} {t : Thread}, topRunT tb p w n₀ ann n s t = some s' → topRun tb p w n₀ ann n s.abs t = some s'.abs
  | 0, _, _, _, h => by cases h
  | n + 1, s, s', t, h => by
    unfold topRunT at h
    unfold topRun
    cases he : through t with
    | true => rw [he] at h; cases h; rfl
    | false =>
      rw [he] at h
      cases hk : stepOk n₀ ann t with
      | false => rw [hk] at h; cases h
      | true =>
        rw [hk] at h
        cases hs : stepT (denote tb) p w s t with
        | none => rw [hs] at h; cases h
        | some r => obtain ⟨s₂, t₂⟩ := r; rw [hs] at h; rw [stepT_spec hs]; exact topRunT_of h
def btOf (l : List Obj) : Nat → Nat → Nat → BT
  | 0, _, _ => .nil
  | f + 1, a, b => match l[b]? with
    | some o => .node o (btOf l f (2 * a) (a + b)) (btOf l f (2 * a) (2 * a + b))
    | none => .nil
theorem boot_bt : ∀ p : PySem.Params, absHeap (btOf (boot_heap p).objs.toList 8 1 0) (boot_heap p).objs.size (boot_heap p).life = boot_heap p := by
  intro p; kernel_rfl
theorem boot_ns : ∀ p : PySem.Params, ((boot_heap p).isNs mainGlobals && (#[] : Array GenState).size == 0) = true := by
  intro p; kernel_rfl
/-- the state in which a top begins, its heap as a tree -/
noncomputable def boot0 (w : World) (os : OsState) : SharedT := ⟨btOf (boot_heap w.params).objs.toList 8 1 0, (boot_heap w.params).objs.size, (boot_heap w.params).life, #[], boot_drawn, boot_toks, os⟩
/-- the top's run by one look -/
theorem leftO_tree {p q : Program} {loose : List PySem.Str} {Xt : Shared → Bool} {α : Type} {Yf : Shared → α} {Ya : World → α} {N : Nat} {g0 : Bool}
    (e : opening p = plainProg p.main.scope.names) (hN : Nat.ble 600 N = true) (f : ∀ s, fenceModules? p s = some s)
    (h : ∀ w : World, (fun os => (topRunT treeTable p w (boot_heap w.params).objs.size ((boot_heap w.params).nsMap mainGlobals "__annotations__") N (boot0 w os) (topStub p)).map fun sT => (fun s : Shared => ((staticsOk (importedModules p.main.body) (boot_heap w.params) s.heap && namesBound p s.heap && gensDone s && laidKept (boot_heap w.params) s.heap), openSeen q loose (importedModules p.main.body) Xt g0 s, Yf s)) sT.abs) =
      fun _ => some (true, openGood q loose, Ya w)) : LeftO p q loose Xt Yf Ya N g0 := fun w => by
  obtain ⟨⟨hp, gs, d, k, os⟩, e1, e2⟩ := Option.map_eq_some_iff.mp (boot_open e hN f w)
  obtain ⟨rfl, rfl, rfl, rfl⟩ : hp = boot_heap w.params ∧ gs = #[] ∧ d = boot_drawn ∧ k = boot_toks := by simpa using e2
  obtain ⟨sT, r, l⟩ := Option.map_eq_some_iff.mp (congrFun (h w) os)
  have r2 := topRunT_of r
  have b : (boot0 w os).abs = ⟨boot_heap w.params, #[], boot_drawn, boot_toks, os⟩ := by
    show Shared.mk _ _ _ _ _ = _
    exact congrArg (fun x => Shared.mk x #[] boot_drawn boot_toks os) (boot_bt w.params)
  rw [b] at r2
  dsimp only at l
  obtain ⟨l1, l2⟩ := Prod.mk.inj l
  obtain ⟨l2, l3⟩ := Prod.mk.inj l2
  unfold openEnds
  rw [e1, Option.bind_some]
  unfold topFrom
  dsimp only
  rw [boot_ns, r2]
  dsimp only [Option.bind_some]
  rw [l1]
  dsimp only [Option.map_some]
  rw [l2, l3]
end Mine
end
section
open PySem PySem.W PySem.W.X PySem.W.ZRun PyProof.Rows
set_option Elab.async false
set_option maxRecDepth 100000
set_option maxHeartbeats 0
namespace Mine
local macro_rules | `(tactic| k_head) => `(tactic| z_head)
local macro_rules
  | `(tactic| refine $h:ident $args*) => do
    if h.getId.eraseMacroScopes == `PySem.W.holds_openX then
      let hl := Lean.mkIdent `hl
      `(tactic| (refine' $h:ident $args*; (case $hl:ident => (refine Mine.leftO_tree (by kernel_rfl) (by decide) (fun s => by kernel_rfl) ?_; intro w; kernel_rfl))))
    else Lean.Macro.throwUnsupported
open_top hz for PySem.Challenge.rw_dm0028_07
end Mine
end
section
open PySem
set_option maxRecDepth 100000
namespace Mine
theorem sx0 : Str.ofString " [line {0:2d}]" = ⟨#[32, 91, 108, 105, 110, 101, 32, 123, 48, 58, 50, 100, 125, 93]⟩ := rfl
theorem sx1 : Str.ofString " already exists" = ⟨#[32, 97, 108, 114, 101, 97, 100, 121, 32, 101, 120, 105, 115, 116, 115]⟩ := rfl
theorem sx2 : Str.ofString " contains an interpolation key " = ⟨#[32, 99, 111, 110, 116, 97, 105, 110, 115, 32, 97, 110, 32, 105, 110, 116, 101, 114, 112, 111, 108, 97, 116, 105, 111, 110, 32, 107, 101, 121, 32]⟩ := rfl
theorem sx3 : Str.ofString " in section " = ⟨#[32, 105, 110, 32, 115, 101, 99, 116, 105, 111, 110, 32]⟩ := rfl
theorem sx4 : Str.ofString " in section: " = ⟨#[32, 105, 110, 32, 115, 101, 99, 116, 105, 111, 110, 58, 32]⟩ := rfl
theorem sx5 : Str.ofString " which is not a valid option name. Raw value: " = ⟨#[32, 119, 104, 105, 99, 104, 32, 105, 115, 32, 110, 111, 116, 32, 97, 32, 118, 97, 108, 105, 100, 32, 111, 112, 116, 105, 111, 110, 32, 110, 97, 109, 101, 46, 32, 82, 97, 119, 32, 118, 97, 108, 117, 101, 58, 32]⟩ := rfl
theorem sx6 : Str.ofString "\"" = ⟨#[34]⟩ := rfl
theorem sx7 : Str.ofString "(" = ⟨#[40]⟩ := rfl
theorem sx8 : Str.ofString ", " = ⟨#[44, 32]⟩ := rfl
theorem sx9 : Str.ofString ",)" = ⟨#[44, 41]⟩ := rfl
theorem sx10 : Str.ofString ".0" = ⟨#[46, 48]⟩ := rfl
theorem sx11 : Str.ofString ": option " = ⟨#[58, 32, 111, 112, 116, 105, 111, 110, 32]⟩ := rfl
theorem sx12 : Str.ofString ": section " = ⟨#[58, 32, 115, 101, 99, 116, 105, 111, 110, 32]⟩ := rfl
theorem sx13 : Str.ofString "Bad value substitution: " = ⟨#[66, 97, 100, 32, 118, 97, 108, 117, 101, 32, 115, 117, 98, 115, 116, 105, 116, 117, 116, 105, 111, 110, 58, 32]⟩ := rfl
theorem sx14 : Str.ofString "Bad value substitution: option {!r} in section {!r} contains an interpolation key {!r} which is not a valid option name. Raw value: {!r}" = ⟨#[66, 97, 100, 32, 118, 97, 108, 117, 101, 32, 115, 117, 98, 115, 116, 105, 116, 117, 116, 105, 111, 110, 58, 32, 111, 112, 116, 105, 111, 110, 32, 123, 33, 114, 125, 32, 105, 110, 32, 115, 101, 99, 116, 105, 111, 110, 32, 123, 33, 114, 125, 32, 99, 111, 110, 116, 97, 105, 110, 115, 32, 97, 110, 32, 105, 110, 116, 101, 114, 112, 111, 108, 97, 116, 105, 111, 110, 32, 107, 101, 121, 32, 123, 33, 114, 125, 32, 119, 104, 105, 99, 104, 32, 105, 115, 32, 110, 111, 116, 32, 97, 32, 118, 97, 108, 105, 100, 32, 111, 112, 116, 105, 111, 110, 32, 110, 97, 109, 101, 46, 32, 82, 97, 119, 32, 118, 97, 108, 117, 101, 58, 32, 123, 33, 114, 125]⟩ := rfl
theorem sx15 : Str.ofString "DuplicateOptionError" = ⟨#[68, 117, 112, 108, 105, 99, 97, 116, 101, 79, 112, 116, 105, 111, 110, 69, 114, 114, 111, 114]⟩ := rfl
theorem sx16 : Str.ofString "DuplicateOptionError.__init__" = ⟨#[68, 117, 112, 108, 105, 99, 97, 116, 101, 79, 112, 116, 105, 111, 110, 69, 114, 114, 111, 114, 46, 95, 95, 105, 110, 105, 116, 95, 95]⟩ := rfl
theorem sx17 : Str.ofString "DuplicateSectionError" = ⟨#[68, 117, 112, 108, 105, 99, 97, 116, 101, 83, 101, 99, 116, 105, 111, 110, 69, 114, 114, 111, 114]⟩ := rfl
theorem sx18 : Str.ofString "DuplicateSectionError.__init__" = ⟨#[68, 117, 112, 108, 105, 99, 97, 116, 101, 83, 101, 99, 116, 105, 111, 110, 69, 114, 114, 111, 114, 46, 95, 95, 105, 110, 105, 116, 95, 95]⟩ := rfl
theorem sx19 : Str.ofString "Error" = ⟨#[69, 114, 114, 111, 114]⟩ := rfl
theorem sx20 : Str.ofString "Error.__init__" = ⟨#[69, 114, 114, 111, 114, 46, 95, 95, 105, 110, 105, 116, 95, 95]⟩ := rfl
theorem sx21 : Str.ofString "Error.__repr__" = ⟨#[69, 114, 114, 111, 114, 46, 95, 95, 114, 101, 112, 114, 95, 95]⟩ := rfl
theorem sx22 : Str.ofString "Exception" = ⟨#[69, 120, 99, 101, 112, 116, 105, 111, 110]⟩ := rfl
theorem sx23 : Str.ofString "InterpolationDepthError" = ⟨#[73, 110, 116, 101, 114, 112, 111, 108, 97, 116, 105, 111, 110, 68, 101, 112, 116, 104, 69, 114, 114, 111, 114]⟩ := rfl
theorem sx24 : Str.ofString "InterpolationDepthError.__init__" = ⟨#[73, 110, 116, 101, 114, 112, 111, 108, 97, 116, 105, 111, 110, 68, 101, 112, 116, 104, 69, 114, 114, 111, 114, 46, 95, 95, 105, 110, 105, 116, 95, 95]⟩ := rfl
theorem sx25 : Str.ofString "InterpolationError" = ⟨#[73, 110, 116, 101, 114, 112, 111, 108, 97, 116, 105, 111, 110, 69, 114, 114, 111, 114]⟩ := rfl
theorem sx26 : Str.ofString "InterpolationError.__init__" = ⟨#[73, 110, 116, 101, 114, 112, 111, 108, 97, 116, 105, 111, 110, 69, 114, 114, 111, 114, 46, 95, 95, 105, 110, 105, 116, 95, 95]⟩ := rfl
theorem sx27 : Str.ofString "InterpolationMissingOptionError" = ⟨#[73, 110, 116, 101, 114, 112, 111, 108, 97, 116, 105, 111, 110, 77, 105, 115, 115, 105, 110, 103, 79, 112, 116, 105, 111, 110, 69, 114, 114, 111, 114]⟩ := rfl
theorem sx28 : Str.ofString "InterpolationMissingOptionError.__init__" = ⟨#[73, 110, 116, 101, 114, 112, 111, 108, 97, 116, 105, 111, 110, 77, 105, 115, 115, 105, 110, 103, 79, 112, 116, 105, 111, 110, 69, 114, 114, 111, 114, 46, 95, 95, 105, 110, 105, 116, 95, 95]⟩ := rfl
theorem sx29 : Str.ofString "MAX_INTERPOLATION_DEPTH" = ⟨#[77, 65, 88, 95, 73, 78, 84, 69, 82, 80, 79, 76, 65, 84, 73, 79, 78, 95, 68, 69, 80, 84, 72]⟩ := rfl
theorem sx30 : Str.ofString "No option " = ⟨#[78, 111, 32, 111, 112, 116, 105, 111, 110, 32]⟩ := rfl
theorem sx31 : Str.ofString "No option %r in section: %r" = ⟨#[78, 111, 32, 111, 112, 116, 105, 111, 110, 32, 37, 114, 32, 105, 110, 32, 115, 101, 99, 116, 105, 111, 110, 58, 32, 37, 114]⟩ := rfl
theorem sx32 : Str.ofString "No section: " = ⟨#[78, 111, 32, 115, 101, 99, 116, 105, 111, 110, 58, 32]⟩ := rfl
theorem sx33 : Str.ofString "No section: %r" = ⟨#[78, 111, 32, 115, 101, 99, 116, 105, 111, 110, 58, 32, 37, 114]⟩ := rfl
theorem sx34 : Str.ofString "NoOptionError" = ⟨#[78, 111, 79, 112, 116, 105, 111, 110, 69, 114, 114, 111, 114]⟩ := rfl
theorem sx35 : Str.ofString "NoOptionError.__init__" = ⟨#[78, 111, 79, 112, 116, 105, 111, 110, 69, 114, 114, 111, 114, 46, 95, 95, 105, 110, 105, 116, 95, 95]⟩ := rfl
theorem sx36 : Str.ofString "NoSectionError" = ⟨#[78, 111, 83, 101, 99, 116, 105, 111, 110, 69, 114, 114, 111, 114]⟩ := rfl
theorem sx37 : Str.ofString "NoSectionError.__init__" = ⟨#[78, 111, 83, 101, 99, 116, 105, 111, 110, 69, 114, 114, 111, 114, 46, 95, 95, 105, 110, 105, 116, 95, 95]⟩ := rfl
theorem sx38 : Str.ofString "Option " = ⟨#[79, 112, 116, 105, 111, 110, 32]⟩ := rfl
theorem sx39 : Str.ofString "Recursion limit exceeded in value substitution: " = ⟨#[82, 101, 99, 117, 114, 115, 105, 111, 110, 32, 108, 105, 109, 105, 116, 32, 101, 120, 99, 101, 101, 100, 101, 100, 32, 105, 110, 32, 118, 97, 108, 117, 101, 32, 115, 117, 98, 115, 116, 105, 116, 117, 116, 105, 111, 110, 58, 32]⟩ := rfl
theorem sx40 : Str.ofString "Recursion limit exceeded in value substitution: option {!r} in section {!r} contains an interpolation key which cannot be substituted in {} steps. Raw value: {!r}" = ⟨#[82, 101, 99, 117, 114, 115, 105, 111, 110, 32, 108, 105, 109, 105, 116, 32, 101, 120, 99, 101, 101, 100, 101, 100, 32, 105, 110, 32, 118, 97, 108, 117, 101, 32, 115, 117, 98, 115, 116, 105, 116, 117, 116, 105, 111, 110, 58, 32, 111, 112, 116, 105, 111, 110, 32, 123, 33, 114, 125, 32, 105, 110, 32, 115, 101, 99, 116, 105, 111, 110, 32, 123, 33, 114, 125, 32, 99, 111, 110, 116, 97, 105, 110, 115, 32, 97, 110, 32, 105, 110, 116, 101, 114, 112, 111, 108, 97, 116, 105, 111, 110, 32, 107, 101, 121, 32, 119, 104, 105, 99, 104, 32, 99, 97, 110, 110, 111, 116, 32, 98, 101, 32, 115, 117, 98, 115, 116, 105, 116, 117, 116, 101, 100, 32, 105, 110, 32, 123, 125, 32, 115, 116, 101, 112, 115, 46, 32, 82, 97, 119, 32, 118, 97, 108, 117, 101, 58, 32, 123, 33, 114, 125]⟩ := rfl
theorem sx41 : Str.ofString "Section " = ⟨#[83, 101, 99, 116, 105, 111, 110, 32]⟩ := rfl
theorem sx42 : Str.ofString "While reading from " = ⟨#[87, 104, 105, 108, 101, 32, 114, 101, 97, 100, 105, 110, 103, 32, 102, 114, 111, 109, 32]⟩ := rfl
theorem sx43 : Str.ofString "[" = ⟨#[91]⟩ := rfl
theorem sx44 : Str.ofString "]" = ⟨#[93]⟩ := rfl
theorem sx45 : Str.ofString "__init__" = ⟨#[95, 95, 105, 110, 105, 116, 95, 95]⟩ := rfl
theorem sx46 : Str.ofString "__name__" = ⟨#[95, 95, 110, 97, 109, 101, 95, 95]⟩ := rfl
theorem sx47 : Str.ofString "__repr__" = ⟨#[95, 95, 114, 101, 112, 114, 95, 95]⟩ := rfl
theorem sx48 : Str.ofString "__str__" = ⟨#[95, 95, 115, 116, 114, 95, 95]⟩ := rfl
theorem sx49 : Str.ofString "_law_held" = ⟨#[95, 108, 97, 119, 95, 104, 101, 108, 100]⟩ := rfl
theorem sx50 : Str.ofString "_law_made" = ⟨#[95, 108, 97, 119, 95, 109, 97, 100, 101]⟩ := rfl
theorem sx51 : Str.ofString "_law_right" = ⟨#[95, 108, 97, 119, 95, 114, 105, 103, 104, 116]⟩ := rfl
theorem sx52 : Str.ofString "_law_very" = ⟨#[95, 108, 97, 119, 95, 118, 101, 114, 121]⟩ := rfl
theorem sx53 : Str.ofString "_law_words" = ⟨#[95, 108, 97, 119, 95, 119, 111, 114, 100, 115]⟩ := rfl
theorem sx54 : Str.ofString "_law_written" = ⟨#[95, 108, 97, 119, 95, 119, 114, 105, 116, 116, 101, 110]⟩ := rfl
theorem sx55 : Str.ofString "a" = ⟨#[97]⟩ := rfl
theorem sx56 : Str.ofString "abs" = ⟨#[97, 98, 115]⟩ := rfl
theorem sx57 : Str.ofString "append" = ⟨#[97, 112, 112, 101, 110, 100]⟩ := rfl
theorem sx58 : Str.ofString "args" = ⟨#[97, 114, 103, 115]⟩ := rfl
theorem sx59 : Str.ofString "b" = ⟨#[98]⟩ := rfl
theorem sx60 : Str.ofString "c" = ⟨#[99]⟩ := rfl
theorem sx61 : Str.ofString "clear" = ⟨#[99, 108, 101, 97, 114]⟩ := rfl
theorem sx62 : Str.ofString "cpy313.configparser" = ⟨#[99, 112, 121, 51, 49, 51, 46, 99, 111, 110, 102, 105, 103, 112, 97, 114, 115, 101, 114]⟩ := rfl
theorem sx63 : Str.ofString "divmod" = ⟨#[100, 105, 118, 109, 111, 100]⟩ := rfl
theorem sx64 : Str.ofString "due" = ⟨#[100, 117, 101]⟩ := rfl
theorem sx65 : Str.ofString "err" = ⟨#[101, 114, 114]⟩ := rfl
theorem sx66 : Str.ofString "extend" = ⟨#[101, 120, 116, 101, 110, 100]⟩ := rfl
theorem sx67 : Str.ofString "fast" = ⟨#[102, 97, 115, 116]⟩ := rfl
theorem sx68 : Str.ofString "first" = ⟨#[102, 105, 114, 115, 116]⟩ := rfl
theorem sx69 : Str.ofString "format" = ⟨#[102, 111, 114, 109, 97, 116]⟩ := rfl
theorem sx70 : Str.ofString "insert" = ⟨#[105, 110, 115, 101, 114, 116]⟩ := rfl
theorem sx71 : Str.ofString "isinstance" = ⟨#[105, 115, 105, 110, 115, 116, 97, 110, 99, 101]⟩ := rfl
theorem sx72 : Str.ofString "it's" = ⟨#[105, 116, 39, 115]⟩ := rfl
theorem sx73 : Str.ofString "join" = ⟨#[106, 111, 105, 110]⟩ := rfl
theorem sx74 : Str.ofString "k" = ⟨#[107]⟩ := rfl
theorem sx75 : Str.ofString "kept" = ⟨#[107, 101, 112, 116]⟩ := rfl
theorem sx76 : Str.ofString "key" = ⟨#[107, 101, 121]⟩ := rfl
theorem sx77 : Str.ofString "kind" = ⟨#[107, 105, 110, 100]⟩ := rfl
theorem sx78 : Str.ofString "law" = ⟨#[108, 97, 119]⟩ := rfl
theorem sx79 : Str.ofString "law_dm0028_07" = ⟨#[108, 97, 119, 95, 100, 109, 48, 48, 50, 56, 95, 48, 55]⟩ := rfl
theorem sx80 : Str.ofString "len" = ⟨#[108, 101, 110]⟩ := rfl
theorem sx81 : Str.ofString "lineno" = ⟨#[108, 105, 110, 101, 110, 111]⟩ := rfl
theorem sx82 : Str.ofString "list" = ⟨#[108, 105, 115, 116]⟩ := rfl
theorem sx83 : Str.ofString "message" = ⟨#[109, 101, 115, 115, 97, 103, 101]⟩ := rfl
theorem sx84 : Str.ofString "msg" = ⟨#[109, 115, 103]⟩ := rfl
theorem sx85 : Str.ofString "name" = ⟨#[110, 97, 109, 101]⟩ := rfl
theorem sx86 : Str.ofString "names" = ⟨#[110, 97, 109, 101, 115]⟩ := rfl
theorem sx87 : Str.ofString "number" = ⟨#[110, 117, 109, 98, 101, 114]⟩ := rfl
theorem sx88 : Str.ofString "one" = ⟨#[111, 110, 101]⟩ := rfl
theorem sx89 : Str.ofString "option" = ⟨#[111, 112, 116, 105, 111, 110]⟩ := rfl
theorem sx90 : Str.ofString "option " = ⟨#[111, 112, 116, 105, 111, 110, 32]⟩ := rfl
theorem sx91 : Str.ofString "pairs" = ⟨#[112, 97, 105, 114, 115]⟩ := rfl
theorem sx92 : Str.ofString "range" = ⟨#[114, 97, 110, 103, 101]⟩ := rfl
theorem sx93 : Str.ofString "rawval" = ⟨#[114, 97, 119, 118, 97, 108]⟩ := rfl
theorem sx94 : Str.ofString "reference" = ⟨#[114, 101, 102, 101, 114, 101, 110, 99, 101]⟩ := rfl
theorem sx95 : Str.ofString "repr" = ⟨#[114, 101, 112, 114]⟩ := rfl
theorem sx96 : Str.ofString "rest" = ⟨#[114, 101, 115, 116]⟩ := rfl
theorem sx97 : Str.ofString "row" = ⟨#[114, 111, 119]⟩ := rfl
theorem sx98 : Str.ofString "script" = ⟨#[115, 99, 114, 105, 112, 116]⟩ := rfl
theorem sx99 : Str.ofString "second" = ⟨#[115, 101, 99, 111, 110, 100]⟩ := rfl
theorem sx100 : Str.ofString "section" = ⟨#[115, 101, 99, 116, 105, 111, 110]⟩ := rfl
theorem sx101 : Str.ofString "self" = ⟨#[115, 101, 108, 102]⟩ := rfl
theorem sx102 : Str.ofString "source" = ⟨#[115, 111, 117, 114, 99, 101]⟩ := rfl
theorem sx103 : Str.ofString "step" = ⟨#[115, 116, 101, 112]⟩ := rfl
theorem sx104 : Str.ofString "str" = ⟨#[115, 116, 114]⟩ := rfl
theorem sx105 : Str.ofString "third" = ⟨#[116, 104, 105, 114, 100]⟩ := rfl
theorem sx106 : Str.ofString "tuple" = ⟨#[116, 117, 112, 108, 101]⟩ := rfl
theorem sx107 : Str.ofString "which cannot be substituted in 10 steps. Raw value: " = ⟨#[119, 104, 105, 99, 104, 32, 99, 97, 110, 110, 111, 116, 32, 98, 101, 32, 115, 117, 98, 115, 116, 105, 116, 117, 116, 101, 100, 32, 105, 110, 32, 49, 48, 32, 115, 116, 101, 112, 115, 46, 32, 82, 97, 119, 32, 118, 97, 108, 117, 101, 58, 32]⟩ := rfl
theorem sx108 : Str.ofString "words" = ⟨#[119, 111, 114, 100, 115]⟩ := rfl
theorem sx109 : Str.ofString "x" = ⟨#[120]⟩ := rfl
end Mine
end
section
open PySem PySem.W PySem.W.X PySem.Calls PyProof.Rows PySem.W.ZRun
set_option maxRecDepth 100000
set_option maxHeartbeats 8000000
set_option linter.unusedVariables false
set_option linter.unusedSimpArgs false
namespace Mine
local macro_rules | `(tactic| walk_at $s:str) => `(tactic| k_extra $s)
local macro_rules | `(tactic| k_ne) => `(tactic| (refine neN ?_; (try dsimp only); k_extra "ne"))
section
theorem lay1 : True := by
  k_with_none
  k_with "ne" => (with_reducible (first | exact ns1 | exact ns2 | exact qlt (by assumption) | exact qgt (by assumption) | exact qne (by assumption) | exact qen (by assumption) | exact rlt (by assumption) | exact rgt (by assumption) | exact rne (by assumption) | exact ren (by assumption) | exact qlt (And.right (by assumption)) | exact qgt (And.right (by assumption)) | exact qne (And.right (by assumption)) | exact qen (And.right (by assumption)) | exact rlt (And.right (by assumption)) | exact rgt (And.right (by assumption)) | exact rne (And.right (by assumption)) | exact ren (And.right (by assumption)) | exact qlt (And.right (And.right (by assumption))) | exact qgt (And.right (And.right (by assumption))) | exact qne (And.right (And.right (by assumption))) | exact qen (And.right (And.right (by assumption))) | exact rlt (And.right (And.right (by assumption))) | exact rgt (And.right (And.right (by assumption))) | exact rne (And.right (And.right (by assumption))) | exact ren (And.right (And.right (by assumption))) | exact qlt (And.right (And.right (And.right (by assumption)))) | exact qgt (And.right (And.right (And.right (by assumption)))) | exact qne (And.right (And.right (And.right (by assumption)))) | exact qen (And.right (And.right (And.right (by assumption)))) | exact rlt (And.right (And.right (And.right (by assumption)))) | exact rgt (And.right (And.right (And.right (by assumption)))) | exact rne (And.right (And.right (And.right (by assumption)))) | exact ren (And.right (And.right (And.right (by assumption)))) | exact qlt (And.right (And.right (And.right (And.right (by assumption))))) | exact qgt (And.right (And.right (And.right (And.right (by assumption))))) | exact qne (And.right (And.right (And.right (And.right (by assumption))))) | exact qen (And.right (And.right (And.right (And.right (by assumption))))) | exact rlt (And.right (And.right (And.right (And.right (by assumption))))) | exact rgt (And.right (And.right (And.right (And.right (by assumption))))) | exact rne (And.right (And.right (And.right (And.right (by assumption))))) | exact ren (And.right (And.right (And.right (And.right (by assumption))))) | exact qlt (And.right (And.right (And.right (And.right (And.right (by assumption)))))) | exact qgt (And.right (And.right (And.right (And.right (And.right (by assumption)))))) | exact qne (And.right (And.right (And.right (And.right (And.right (by assumption)))))) | exact qen (And.right (And.right (And.right (And.right (And.right (by assumption)))))) | exact rlt (And.right (And.right (And.right (And.right (And.right (by assumption)))))) | exact rgt (And.right (And.right (And.right (And.right (And.right (by assumption)))))) | exact rne (And.right (And.right (And.right (And.right (And.right (by assumption)))))) | exact ren (And.right (And.right (And.right (And.right (And.right (by assumption)))))) | exact qlt (And.right (And.right (And.right (And.right (And.right (And.right (by assumption))))))) | exact qgt (And.right (And.right (And.right (And.right (And.right (And.right (by assumption))))))) | exact qne (And.right (And.right (And.right (And.right (And.right (And.right (by assumption))))))) | exact qen (And.right (And.right (And.right (And.right (And.right (And.right (by assumption))))))) | exact rlt (And.right (And.right (And.right (And.right (And.right (And.right (by assumption))))))) | exact rgt (And.right (And.right (And.right (And.right (And.right (And.right (by assumption))))))) | exact rne (And.right (And.right (And.right (And.right (And.right (And.right (by assumption))))))) | exact ren (And.right (And.right (And.right (And.right (And.right (And.right (by assumption))))))) | exact qlt (And.right (And.right (And.right (And.right (And.right (And.right (And.right (by assumption)))))))) | exact qgt (And.right (And.right (And.right (And.right (And.right (And.right (And.right (by assumption)))))))) | exact qne (And.right (And.right (And.right (And.right (And.right (And.right (And.right (by assumption)))))))) | exact qen (And.right (And.right (And.right (And.right (And.right (And.right (And.right (by assumption)))))))) | exact rlt (And.right (And.right (And.right (And.right (And.right (And.right (And.right (by assumption)))))))) | exact rgt (And.right (And.right (And.right (And.right (And.right (And.right (And.right (by assumption)))))))) | exact rne (And.right (And.right (And.right (And.right (And.right (And.right (And.right (by assumption)))))))) | exact ren (And.right (And.right (And.right (And.right (And.right (And.right (And.right (by assumption)))))))) | exact qlt (And.right (And.right (And.right (And.right (And.right (And.right (And.right (And.right (by assumption))))))))) | exact qgt (And.right (And.right (And.right (And.right (And.right (And.right (And.right (And.right (by assumption))))))))) | exact qne (And.right (And.right (And.right (And.right (And.right (And.right (And.right (And.right (by assumption))))))))) | exact qen (And.right (And.right (And.right (And.right (And.right (And.right (And.right (And.right (by assumption))))))))) | exact rlt (And.right (And.right (And.right (And.right (And.right (And.right (And.right (And.right (by assumption))))))))) | exact rgt (And.right (And.right (And.right (And.right (And.right (And.right (And.right (And.right (by assumption))))))))) | exact rne (And.right (And.right (And.right (And.right (And.right (And.right (And.right (And.right (by assumption))))))))) | exact ren (And.right (And.right (And.right (And.right (And.right (And.right (And.right (And.right (by assumption))))))))) | exact qlt (And.right (And.right (And.right (And.right (And.right (And.right (And.right (And.right (And.right (by assumption)))))))))) | exact qgt (And.right (And.right (And.right (And.right (And.right (And.right (And.right (And.right (And.right (by assumption)))))))))) | exact qne (And.right (And.right (And.right (And.right (And.right (And.right (And.right (And.right (And.right (by assumption)))))))))) | exact qen (And.right (And.right (And.right (And.right (And.right (And.right (And.right (And.right (And.right (by assumption)))))))))) | exact rlt (And.right (And.right (And.right (And.right (And.right (And.right (And.right (And.right (And.right (by assumption)))))))))) | exact rgt (And.right (And.right (And.right (And.right (And.right (And.right (And.right (And.right (And.right (by assumption)))))))))) | exact rne (And.right (And.right (And.right (And.right (And.right (And.right (And.right (And.right (And.right (by assumption)))))))))) | exact ren (And.right (And.right (And.right (And.right (And.right (And.right (And.right (And.right (And.right (by assumption)))))))))) | exact qlt (And.right (And.right (And.right (And.right (And.right (And.right (And.right (And.right (And.right (And.right (by assumption))))))))))) | exact qgt (And.right (And.right (And.right (And.right (And.right (And.right (And.right (And.right (And.right (And.right (by assumption))))))))))) | exact qne (And.right (And.right (And.right (And.right (And.right (And.right (And.right (And.right (And.right (And.right (by assumption))))))))))) | exact qen (And.right (And.right (And.right (And.right (And.right (And.right (And.right (And.right (And.right (And.right (by assumption))))))))))) | exact rlt (And.right (And.right (And.right (And.right (And.right (And.right (And.right (And.right (And.right (And.right (by assumption))))))))))) | exact rgt (And.right (And.right (And.right (And.right (And.right (And.right (And.right (And.right (And.right (And.right (by assumption))))))))))) | exact rne (And.right (And.right (And.right (And.right (And.right (And.right (And.right (And.right (And.right (And.right (by assumption))))))))))) | exact ren (And.right (And.right (And.right (And.right (And.right (And.right (And.right (And.right (And.right (And.right (by assumption))))))))))) | exact qlt (And.right (And.right (And.right (And.right (And.right (And.right (And.right (And.right (And.right (And.right (And.right (by assumption)))))))))))) | exact qgt (And.right (And.right (And.right (And.right (And.right (And.right (And.right (And.right (And.right (And.right (And.right (by assumption)))))))))))) | exact qne (And.right (And.right (And.right (And.right (And.right (And.right (And.right (And.right (And.right (And.right (And.right (by assumption)))))))))))) | exact qen (And.right (And.right (And.right (And.right (And.right (And.right (And.right (And.right (And.right (And.right (And.right (by assumption)))))))))))) | exact rlt (And.right (And.right (And.right (And.right (And.right (And.right (And.right (And.right (And.right (And.right (And.right (by assumption)))))))))))) | exact rgt (And.right (And.right (And.right (And.right (And.right (And.right (And.right (And.right (And.right (And.right (And.right (by assumption)))))))))))) | exact rne (And.right (And.right (And.right (And.right (And.right (And.right (And.right (And.right (And.right (And.right (And.right (by assumption)))))))))))) | exact ren (And.right (And.right (And.right (And.right (And.right (And.right (And.right (And.right (And.right (And.right (And.right (by assumption)))))))))))) | exact qlt (And.right (And.right (And.right (And.right (And.right (And.right (And.right (And.right (And.right (And.right (And.right (And.right (by assumption))))))))))))) | exact qgt (And.right (And.right (And.right (And.right (And.right (And.right (And.right (And.right (And.right (And.right (And.right (And.right (by assumption))))))))))))) | exact qne (And.right (And.right (And.right (And.right (And.right (And.right (And.right (And.right (And.right (And.right (And.right (And.right (by assumption))))))))))))) | exact qen (And.right (And.right (And.right (And.right (And.right (And.right (And.right (And.right (And.right (And.right (And.right (And.right (by assumption))))))))))))) | exact rlt (And.right (And.right (And.right (And.right (And.right (And.right (And.right (And.right (And.right (And.right (And.right (And.right (by assumption))))))))))))) | exact rgt (And.right (And.right (And.right (And.right (And.right (And.right (And.right (And.right (And.right (And.right (And.right (And.right (by assumption))))))))))))) | exact rne (And.right (And.right (And.right (And.right (And.right (And.right (And.right (And.right (And.right (And.right (And.right (And.right (by assumption))))))))))))) | exact ren (And.right (And.right (And.right (And.right (And.right (And.right (And.right (And.right (And.right (And.right (And.right (And.right (by assumption))))))))))))) | exact qlt (And.right (And.right (And.right (And.right (And.right (And.right (And.right (And.right (And.right (And.right (And.right (And.right (And.right (by assumption)))))))))))))) | exact qgt (And.right (And.right (And.right (And.right (And.right (And.right (And.right (And.right (And.right (And.right (And.right (And.right (And.right (by assumption)))))))))))))) | exact qne (And.right (And.right (And.right (And.right (And.right (And.right (And.right (And.right (And.right (And.right (And.right (And.right (And.right (by assumption)))))))))))))) | exact qen (And.right (And.right (And.right (And.right (And.right (And.right (And.right (And.right (And.right (And.right (And.right (And.right (And.right (by assumption)))))))))))))) | exact rlt (And.right (And.right (And.right (And.right (And.right (And.right (And.right (And.right (And.right (And.right (And.right (And.right (And.right (by assumption)))))))))))))) | exact rgt (And.right (And.right (And.right (And.right (And.right (And.right (And.right (And.right (And.right (And.right (And.right (And.right (And.right (by assumption)))))))))))))) | exact rne (And.right (And.right (And.right (And.right (And.right (And.right (And.right (And.right (And.right (And.right (And.right (And.right (And.right (by assumption)))))))))))))) | exact ren (And.right (And.right (And.right (And.right (And.right (And.right (And.right (And.right (And.right (And.right (And.right (And.right (And.right (by assumption)))))))))))))) | exact qlt (And.right (And.right (And.right (And.right (And.right (And.right (And.right (And.right (And.right (And.right (And.right (And.right (And.right (And.right (by assumption))))))))))))))) | exact qgt (And.right (And.right (And.right (And.right (And.right (And.right (And.right (And.right (And.right (And.right (And.right (And.right (And.right (And.right (by assumption))))))))))))))) | exact qne (And.right (And.right (And.right (And.right (And.right (And.right (And.right (And.right (And.right (And.right (And.right (And.right (And.right (And.right (by assumption))))))))))))))) | exact qen (And.right (And.right (And.right (And.right (And.right (And.right (And.right (And.right (And.right (And.right (And.right (And.right (And.right (And.right (by assumption))))))))))))))) | exact rlt (And.right (And.right (And.right (And.right (And.right (And.right (And.right (And.right (And.right (And.right (And.right (And.right (And.right (And.right (by assumption))))))))))))))) | exact rgt (And.right (And.right (And.right (And.right (And.right (And.right (And.right (And.right (And.right (And.right (And.right (And.right (And.right (And.right (by assumption))))))))))))))) | exact rne (And.right (And.right (And.right (And.right (And.right (And.right (And.right (And.right (And.right (And.right (And.right (And.right (And.right (And.right (by assumption))))))))))))))) | exact ren (And.right (And.right (And.right (And.right (And.right (And.right (And.right (And.right (And.right (And.right (And.right (And.right (And.right (And.right (by assumption))))))))))))))) | exact qlt (And.right (And.right (And.right (And.right (And.right (And.right (And.right (And.right (And.right (And.right (And.right (And.right (And.right (And.right (And.right (by assumption)))))))))))))))) | exact qgt (And.right (And.right (And.right (And.right (And.right (And.right (And.right (And.right (And.right (And.right (And.right (And.right (And.right (And.right (And.right (by assumption)))))))))))))))) | exact qne (And.right (And.right (And.right (And.right (And.right (And.right (And.right (And.right (And.right (And.right (And.right (And.right (And.right (And.right (And.right (by assumption)))))))))))))))) | exact qen (And.right (And.right (And.right (And.right (And.right (And.right (And.right (And.right (And.right (And.right (And.right (And.right (And.right (And.right (And.right (by assumption)))))))))))))))) | exact rlt (And.right (And.right (And.right (And.right (And.right (And.right (And.right (And.right (And.right (And.right (And.right (And.right (And.right (And.right (And.right (by assumption)))))))))))))))) | exact rgt (And.right (And.right (And.right (And.right (And.right (And.right (And.right (And.right (And.right (And.right (And.right (And.right (And.right (And.right (And.right (by assumption)))))))))))))))) | exact rne (And.right (And.right (And.right (And.right (And.right (And.right (And.right (And.right (And.right (And.right (And.right (And.right (And.right (And.right (And.right (by assumption)))))))))))))))) | exact ren (And.right (And.right (And.right (And.right (And.right (And.right (And.right (And.right (And.right (And.right (And.right (And.right (And.right (And.right (And.right (by assumption))))))))))))))))))
  trivial
theorem lay2 : True := by
  k_with "mine texts" => ((try dsimp only [← sx0, ← sx1, ← sx2, ← sx3, ← sx4, ← sx5, ← sx6, ← sx7, ← sx8, ← sx9, ← sx10, ← sx11, ← sx12, ← sx13, ← sx14, ← sx15, ← sx16, ← sx17, ← sx18, ← sx19, ← sx20, ← sx21, ← sx22, ← sx23, ← sx24, ← sx25, ← sx26, ← sx27, ← sx28, ← sx29, ← sx30, ← sx31, ← sx32, ← sx33, ← sx34, ← sx35, ← sx36, ← sx37, ← sx38, ← sx39, ← sx40, ← sx41, ← sx42, ← sx43, ← sx44, ← sx45, ← sx46, ← sx47, ← sx48, ← sx49, ← sx50, ← sx51, ← sx52, ← sx53, ← sx54, ← sx55, ← sx56, ← sx57, ← sx58, ← sx59, ← sx60, ← sx61, ← sx62, ← sx63, ← sx64, ← sx65, ← sx66, ← sx67, ← sx68, ← sx69, ← sx70, ← sx71, ← sx72, ← sx73, ← sx74, ← sx75, ← sx76, ← sx77, ← sx78, ← sx79, ← sx80, ← sx81, ← sx82, ← sx83, ← sx84, ← sx85, ← sx86, ← sx87, ← sx88, ← sx89, ← sx90, ← sx91, ← sx92, ← sx93, ← sx94, ← sx95, ← sx96, ← sx97, ← sx98, ← sx99, ← sx100, ← sx101, ← sx102, ← sx103, ← sx104, ← sx105, ← sx106, ← sx107, ← sx108, ← sx109]))
  k_with "mine drop" => (first | (refine' Drop.head ?a; (case a => k_all)) | (refine' Drop.tail ?a ?b; (case a => k_ne); (case b => walk_at "mine drop")))
  k_with "setAttr ref" => ((k_here; k_dflt (first | (refine' exc_set0 ?k1 ?k2 ?k3 ?k4 ?k5 ?k6 ?k7 ?k8 ?k9 ?_; (case k1 => k_asm); (case k2 => k_asm); (case k3 => k_asm); (case k4 => k_mem); (case k5 => k_is); (case k6 => kernel_rfl); (case k7 => k_is); (case k8 => k_is); (case k9 => intro zqd; k_upd); k_whole; intro zqdp zqhp zqFp zqNp zql1; (try k_lt zql1)) | (refine' exc_set_args ?k1 ?k2 ?k3 ?k4 ?k5 ?k6 ?k7 ?k8 ?k9 ?k10 ?_; (case k1 => k_asm); (case k2 => k_asm); (case k3 => k_asm); (case k4 => first | (refine' InstAt.of_exc ?N ?h1 ?h2; (case N => k_asm); (case h1 => k_mem); (case h2 => k_mem)) | (refine' InstAt.of_exc0 ?N ?h1; (case N => k_asm); (case h1 => k_mem))); (case k5 => exact isTup_of (by k_asm) (by k_mem)); (case k6 => k_is); (case k7 => kernel_rfl); (case k8 => k_is); (case k9 => k_is); (case k10 => k_upd); k_whole; intro zqhp zqFp zqNp) | (refine' exc_set ?k1 ?k2 ?k3 ?k4 ?k5 ?k6 ?k7 ?k8 ?k9 ?k10 ?k11 ?k12 ?_; (case k1 => k_asm); (case k2 => k_asm); (case k3 => k_asm); (case k4 => first | (refine' InstAt.of_exc ?N ?h1 ?h2; (case N => k_asm); (case h1 => k_mem); (case h2 => k_mem)) | (refine' InstAt.of_exc0 ?N ?h1; (case N => k_asm); (case h1 => k_mem))); (case k5 => k_is); (case k6 => kernel_rfl); (case k7 => k_is); (case k8 => k_is); (case k9 => k_get); (case k10 => k_put); (case k11 => k_upd); (case k12 => exact Nat.le_of_ble_eq_true rfl); k_whole; intro zqhp zqFp zqNp))))
  k_with "call builtin:Exception.__init__" => ((k_here; k_dflt (refine' exc_init_call ?k1 ?k2 ?k3 ?k4 ?k5 ?k6 ?_; (case k1 => k_asm); (case k2 => k_asm); (case k3 => k_asm); (case k4 => first | (refine' InstAt.of_exc ?N ?h1 ?h2; (case N => k_asm); (case h1 => k_mem); (case h2 => k_mem)) | (refine' InstAt.of_exc0 ?N ?h1; (case N => k_asm); (case h1 => k_mem))); (case k5 => k_is); (case k6 => intro zqt; k_upd); k_whole; intro zqtp zqhp zqFp zqNp zql1; (try k_lt zql1))))
  k_with "call builtin:repr" => ((k_here; k_dflt (refine' repr_use ?k1 ?k2 ?k3 ?k4 ?k5 ?k6 ?k7 ?_; (case k1 => assumption); (case k2 => k_asm); (case k3 => k_asm); (case k4 => exact rfl); (case k5 => exact rfl); (case k6 => exact Nat.le_of_ble_eq_true rfl); (case k7 => exact Nat.le_of_ble_eq_true rfl); k_whole; intro zqhp zqup zqtkp zqFp zqNp)))
  k_with "BackIn" => ((k_dflt (refine' back_ ?k1 ?k2 ?k3 ?_; (case k1 => k_asm); (case k2 => k_asm); (case k3 => walk_at "mine drop"); k_whole; intro zqFp zqNp; (try dsimp only))))
  k_with "call ref" => ((k_here; k_dflt (refine wpAny_call ?_; refine' enter_in ?k1 ?k2 ?k3 ?k4 ?k5 ?k6 ?k7 ?k8 ?kB ?c2 ?c3 ?c4 ?c5 ?_; (case k1 => k_asm); (case k2 => k_asm); (case k3 => k_asm); (case k4 => exact Top.nolimit (by assumption)); (case k5 => k_is); (case k6 => k_is); (case k7 => exact Nat.le_of_ble_eq_true rfl); (case k8 => first | ((with_reducible show BindsTo _ _ ⟨[_], []⟩ _); first | exact BindsTo.of_eq (binds := [(_, _)]) rfl | exact binds_K (binds := [(_, _)]) (by k_in) rfl (by k_is) rfl rfl rfl) | ((with_reducible show BindsTo _ _ ⟨[_, _], []⟩ _); first | exact BindsTo.of_eq (binds := [(_, _), (_, _)]) rfl | exact binds_K (binds := [(_, _), (_, _)]) (by k_in) rfl (by k_is) rfl rfl rfl) | ((with_reducible show BindsTo _ _ ⟨[_, _, _], []⟩ _); first | exact BindsTo.of_eq (binds := [(_, _), (_, _), (_, _)]) rfl | exact binds_K (binds := [(_, _), (_, _), (_, _)]) (by k_in) rfl (by k_is) rfl rfl rfl) | ((with_reducible show BindsTo _ _ ⟨[_, _, _, _], []⟩ _); first | exact BindsTo.of_eq (binds := [(_, _), (_, _), (_, _), (_, _)]) rfl | exact binds_K (binds := [(_, _), (_, _), (_, _), (_, _)]) (by k_in) rfl (by k_is) rfl rfl rfl) | ((with_reducible show BindsTo _ _ ⟨[_, _, _, _, _], []⟩ _); first | exact BindsTo.of_eq (binds := [(_, _), (_, _), (_, _), (_, _), (_, _)]) rfl | exact binds_K (binds := [(_, _), (_, _), (_, _), (_, _), (_, _)]) (by k_in) rfl (by k_is) rfl rfl rfl)); (case c5 => decide); (case kB => exact locs rfl); (case c2 => exact rfl); (case c3 => exact rfl); (case c4 => exact rfl); k_whole; intro zqoLp zqLp zqhp zqtkp zqFp zqNp zql1 zqn1; (try k_lt zql1); (try (replace zqn1 := allNe_of zqn1; simp only [AllNe, and_true] at zqn1)); (try dsimp only); walk_at "mine texts")))
  k_with "call builtin:str.join" => ((k_here; (with_reducible show wpAny _ _ (call (Value.builtin "str.join") [Value.str _ _, Value.ref _]) _ _ _); k_dflt (refine join_listC (by is_list) (by repeat constructor) (by decide) (by (simp only [List.map_cons, List.map_nil, List.sum_cons, List.sum_nil, List.length_cons, List.length_nil]; omega)) ?_); intro zqtp zqkp))
  k_with "getMethod type:Exception" => ((k_here; refine' method_type ?F ?X ?m (by decide +kernel) ?e ?h ?_; (case F => k_asm); (case X => k_asm); (case m => exact meta_Exception); (case e => k_dflt k_is); (case h => k_handed)))
  k_with "compareOp IsNot" => ((k_here; k_dflt (refine isNot_none (by assumption) ?_)))
  k_with "call builtin:str.format" => ((k_here; k_dflt (refine' line_use ?k1 ?k2 ?k3 ?k4 ?k5 ?k6 ?k7 ?_; (case k1 => assumption); (case k2 => k_asm); (case k3 => k_asm); (case k4 => exact rfl); (case k5 => exact rfl); (case k6 => exact Nat.le_of_ble_eq_true rfl); (case k7 => exact Nat.le_of_ble_eq_true rfl); k_whole; intro zqhp zqup zqtkp zqFp zqNp)))
  k_with "call builtin:str.format" => ((k_here; (with_reducible show wpAny _ _ (call (Value.builtin "str.format") [Value.str _ _, _, _, _, _]) _ _ _); k_dflt (refine' fmt_use ?k1 ?k2 ?k3 ?k4 ?k5 ?_; (case k1 => k_asm); (case k2 => k_asm); (case k3 => exact ⟨rfl, rfl, Nat.le_of_ble_eq_true rfl, Nat.le_of_ble_eq_true rfl⟩); (case k4 => exact args_5 _ _ _ _ _); (case k5 => walk_at "mine fmt")); k_whole; intro zqhp zqup zqtkp zqFp zqNp))
  k_with "pyReprObj" => ((k_here; k_dflt (refine' reprObj_use ?k1 ?k2 ?k3 ?k4 ?k5 ?k6 ?k7 ?_; (case k1 => assumption); (case k2 => k_asm); (case k3 => k_asm); (case k4 => exact rfl); (case k5 => exact rfl); (case k6 => exact Nat.le_of_ble_eq_true rfl); (case k7 => exact Nat.le_of_ble_eq_true rfl); k_whole; intro zqhp zqup zqtkp zqFp zqNp)))
  k_with "getAttr ref" => ((k_here; (with_reducible rename Gets _ _ _ _ _ _ => zg); k_dflt (refine' gets_use (by assumption) ?k2 ?_; (case k2 => k_asm))))
  trivial
theorem msg07 : ∀ {p : Program} {loose : List Str} {mean : ExcName → Option Value} {mg mb : Str → Option Value} (w : World) (s : Shared) (e : Addr) (t : Str) (u0 : Tok) (G : Gets PySem.Challenge.rw_dm0028_07.prog w s.heap e (Str.ofString "message") (.str t u0))
    (Q E : Value → Shared → Prop) (KX : (hz.heap_193 w.params).In s.heap) (T : Top p loose mean mg mb s.heap)
    (hQ : ∀ h' tk (u : Tok), Grow s.heap h' → Q (.str t u) { s with heap := h', toks := tk }),
    wpAny (model PySem.Challenge.rw_dm0028_07.prog w) (AN 880 4400) (call (.ref 36) [.ref e]) Q E s := by
  w_top off
  k_fill
  intro p loose mean mg mb w s e t u0 G Q E KX T hQ
  obtain ⟨hh, g, dr, tk, os⟩ := s
  dsimp only at KX T G hQ
  w_strict (
  refine wpAny_call ?_
  k_dflt (refine' enter_new (h₀ := hh) (binds := [("self", .ref e)]) (news := []) ?k1 ?k2 KX T.nolimit ?k9 ?k5 ?k6 ?k7 ?k8 ?kB ?c2 ?c3 ?c4 ?c5 ?_; (case k5 => k_is); (case k6 => k_is); (case k7 => exact Nat.le_of_ble_eq_true rfl); (case k8 => first | exact BindsTo.of_eq rfl | exact binds_K KX rfl (by k_is) rfl rfl rfl); (case c5 => decide); (case kB => exact locs rfl); (case c2 => exact rfl); (case c3 => exact rfl); (case c4 => exact rfl); (case k1 => exact fun _ _ e => e); (case k2 => exact Nat.le_refl _); (case k9 => exact List.forall_mem_nil _))
  intro L' h' tk' F' N' l1
  walk_at "mine texts"
  k_steps
  dsimp only
  exact hQ _ _ _ F'.keep)
end
section
theorem layIni071 : True := by
  k_with_none
  k_with "ne" => (with_reducible (first | exact ns1 | exact ns2 | exact qlt (by assumption) | exact qgt (by assumption) | exact qne (by assumption) | exact qen (by assumption) | exact rlt (by assumption) | exact rgt (by assumption) | exact rne (by assumption) | exact ren (by assumption) | exact qlt (And.right (by assumption)) | exact qgt (And.right (by assumption)) | exact qne (And.right (by assumption)) | exact qen (And.right (by assumption)) | exact rlt (And.right (by assumption)) | exact rgt (And.right (by assumption)) | exact rne (And.right (by assumption)) | exact ren (And.right (by assumption)) | exact qlt (And.right (And.right (by assumption))) | exact qgt (And.right (And.right (by assumption))) | exact qne (And.right (And.right (by assumption))) | exact qen (And.right (And.right (by assumption))) | exact rlt (And.right (And.right (by assumption))) | exact rgt (And.right (And.right (by assumption))) | exact rne (And.right (And.right (by assumption))) | exact ren (And.right (And.right (by assumption))) | exact qlt (And.right (And.right (And.right (by assumption)))) | exact qgt (And.right (And.right (And.right (by assumption)))) | exact qne (And.right (And.right (And.right (by assumption)))) | exact qen (And.right (And.right (And.right (by assumption)))) | exact rlt (And.right (And.right (And.right (by assumption)))) | exact rgt (And.right (And.right (And.right (by assumption)))) | exact rne (And.right (And.right (And.right (by assumption)))) | exact ren (And.right (And.right (And.right (by assumption)))) | exact qlt (And.right (And.right (And.right (And.right (by assumption))))) | exact qgt (And.right (And.right (And.right (And.right (by assumption))))) | exact qne (And.right (And.right (And.right (And.right (by assumption))))) | exact qen (And.right (And.right (And.right (And.right (by assumption))))) | exact rlt (And.right (And.right (And.right (And.right (by assumption))))) | exact rgt (And.right (And.right (And.right (And.right (by assumption))))) | exact rne (And.right (And.right (And.right (And.right (by assumption))))) | exact ren (And.right (And.right (And.right (And.right (by assumption))))) | exact qlt (And.right (And.right (And.right (And.right (And.right (by assumption)))))) | exact qgt (And.right (And.right (And.right (And.right (And.right (by assumption)))))) | exact qne (And.right (And.right (And.right (And.right (And.right (by assumption)))))) | exact qen (And.right (And.right (And.right (And.right (And.right (by assumption)))))) | exact rlt (And.right (And.right (And.right (And.right (And.right (by assumption)))))) | exact rgt (And.right (And.right (And.right (And.right (And.right (by assumption)))))) | exact rne (And.right (And.right (And.right (And.right (And.right (by assumption)))))) | exact ren (And.right (And.right (And.right (And.right (And.right (by assumption)))))) | exact qlt (And.right (And.right (And.right (And.right (And.right (And.right (by assumption))))))) | exact qgt (And.right (And.right (And.right (And.right (And.right (And.right (by assumption))))))) | exact qne (And.right (And.right (And.right (And.right (And.right (And.right (by assumption))))))) | exact qen (And.right (And.right (And.right (And.right (And.right (And.right (by assumption))))))) | exact rlt (And.right (And.right (And.right (And.right (And.right (And.right (by assumption))))))) | exact rgt (And.right (And.right (And.right (And.right (And.right (And.right (by assumption))))))) | exact rne (And.right (And.right (And.right (And.right (And.right (And.right (by assumption))))))) | exact ren (And.right (And.right (And.right (And.right (And.right (And.right (by assumption))))))) | exact qlt (And.right (And.right (And.right (And.right (And.right (And.right (And.right (by assumption)))))))) | exact qgt (And.right (And.right (And.right (And.right (And.right (And.right (And.right (by assumption)))))))) | exact qne (And.right (And.right (And.right (And.right (And.right (And.right (And.right (by assumption)))))))) | exact qen (And.right (And.right (And.right (And.right (And.right (And.right (And.right (by assumption)))))))) | exact rlt (And.right (And.right (And.right (And.right (And.right (And.right (And.right (by assumption)))))))) | exact rgt (And.right (And.right (And.right (And.right (And.right (And.right (And.right (by assumption)))))))) | exact rne (And.right (And.right (And.right (And.right (And.right (And.right (And.right (by assumption)))))))) | exact ren (And.right (And.right (And.right (And.right (And.right (And.right (And.right (by assumption)))))))) | exact qlt (And.right (And.right (And.right (And.right (And.right (And.right (And.right (And.right (by assumption))))))))) | exact qgt (And.right (And.right (And.right (And.right (And.right (And.right (And.right (And.right (by assumption))))))))) | exact qne (And.right (And.right (And.right (And.right (And.right (And.right (And.right (And.right (by assumption))))))))) | exact qen (And.right (And.right (And.right (And.right (And.right (And.right (And.right (And.right (by assumption))))))))) | exact rlt (And.right (And.right (And.right (And.right (And.right (And.right (And.right (And.right (by assumption))))))))) | exact rgt (And.right (And.right (And.right (And.right (And.right (And.right (And.right (And.right (by assumption))))))))) | exact rne (And.right (And.right (And.right (And.right (And.right (And.right (And.right (And.right (by assumption))))))))) | exact ren (And.right (And.right (And.right (And.right (And.right (And.right (And.right (And.right (by assumption))))))))) | exact qlt (And.right (And.right (And.right (And.right (And.right (And.right (And.right (And.right (And.right (by assumption)))))))))) | exact qgt (And.right (And.right (And.right (And.right (And.right (And.right (And.right (And.right (And.right (by assumption)))))))))) | exact qne (And.right (And.right (And.right (And.right (And.right (And.right (And.right (And.right (And.right (by assumption)))))))))) | exact qen (And.right (And.right (And.right (And.right (And.right (And.right (And.right (And.right (And.right (by assumption)))))))))) | exact rlt (And.right (And.right (And.right (And.right (And.right (And.right (And.right (And.right (And.right (by assumption)))))))))) | exact rgt (And.right (And.right (And.right (And.right (And.right (And.right (And.right (And.right (And.right (by assumption)))))))))) | exact rne (And.right (And.right (And.right (And.right (And.right (And.right (And.right (And.right (And.right (by assumption)))))))))) | exact ren (And.right (And.right (And.right (And.right (And.right (And.right (And.right (And.right (And.right (by assumption)))))))))) | exact qlt (And.right (And.right (And.right (And.right (And.right (And.right (And.right (And.right (And.right (And.right (by assumption))))))))))) | exact qgt (And.right (And.right (And.right (And.right (And.right (And.right (And.right (And.right (And.right (And.right (by assumption))))))))))) | exact qne (And.right (And.right (And.right (And.right (And.right (And.right (And.right (And.right (And.right (And.right (by assumption))))))))))) | exact qen (And.right (And.right (And.right (And.right (And.right (And.right (And.right (And.right (And.right (And.right (by assumption))))))))))) | exact rlt (And.right (And.right (And.right (And.right (And.right (And.right (And.right (And.right (And.right (And.right (by assumption))))))))))) | exact rgt (And.right (And.right (And.right (And.right (And.right (And.right (And.right (And.right (And.right (And.right (by assumption))))))))))) | exact rne (And.right (And.right (And.right (And.right (And.right (And.right (And.right (And.right (And.right (And.right (by assumption))))))))))) | exact ren (And.right (And.right (And.right (And.right (And.right (And.right (And.right (And.right (And.right (And.right (by assumption))))))))))) | exact qlt (And.right (And.right (And.right (And.right (And.right (And.right (And.right (And.right (And.right (And.right (And.right (by assumption)))))))))))) | exact qgt (And.right (And.right (And.right (And.right (And.right (And.right (And.right (And.right (And.right (And.right (And.right (by assumption)))))))))))) | exact qne (And.right (And.right (And.right (And.right (And.right (And.right (And.right (And.right (And.right (And.right (And.right (by assumption)))))))))))) | exact qen (And.right (And.right (And.right (And.right (And.right (And.right (And.right (And.right (And.right (And.right (And.right (by assumption)))))))))))) | exact rlt (And.right (And.right (And.right (And.right (And.right (And.right (And.right (And.right (And.right (And.right (And.right (by assumption)))))))))))) | exact rgt (And.right (And.right (And.right (And.right (And.right (And.right (And.right (And.right (And.right (And.right (And.right (by assumption)))))))))))) | exact rne (And.right (And.right (And.right (And.right (And.right (And.right (And.right (And.right (And.right (And.right (And.right (by assumption)))))))))))) | exact ren (And.right (And.right (And.right (And.right (And.right (And.right (And.right (And.right (And.right (And.right (And.right (by assumption)))))))))))) | exact qlt (And.right (And.right (And.right (And.right (And.right (And.right (And.right (And.right (And.right (And.right (And.right (And.right (by assumption))))))))))))) | exact qgt (And.right (And.right (And.right (And.right (And.right (And.right (And.right (And.right (And.right (And.right (And.right (And.right (by assumption))))))))))))) | exact qne (And.right (And.right (And.right (And.right (And.right (And.right (And.right (And.right (And.right (And.right (And.right (And.right (by assumption))))))))))))) | exact qen (And.right (And.right (And.right (And.right (And.right (And.right (And.right (And.right (And.right (And.right (And.right (And.right (by assumption))))))))))))) | exact rlt (And.right (And.right (And.right (And.right (And.right (And.right (And.right (And.right (And.right (And.right (And.right (And.right (by assumption))))))))))))) | exact rgt (And.right (And.right (And.right (And.right (And.right (And.right (And.right (And.right (And.right (And.right (And.right (And.right (by assumption))))))))))))) | exact rne (And.right (And.right (And.right (And.right (And.right (And.right (And.right (And.right (And.right (And.right (And.right (And.right (by assumption))))))))))))) | exact ren (And.right (And.right (And.right (And.right (And.right (And.right (And.right (And.right (And.right (And.right (And.right (And.right (by assumption))))))))))))) | exact qlt (And.right (And.right (And.right (And.right (And.right (And.right (And.right (And.right (And.right (And.right (And.right (And.right (And.right (by assumption)))))))))))))) | exact qgt (And.right (And.right (And.right (And.right (And.right (And.right (And.right (And.right (And.right (And.right (And.right (And.right (And.right (by assumption)))))))))))))) | exact qne (And.right (And.right (And.right (And.right (And.right (And.right (And.right (And.right (And.right (And.right (And.right (And.right (And.right (by assumption)))))))))))))) | exact qen (And.right (And.right (And.right (And.right (And.right (And.right (And.right (And.right (And.right (And.right (And.right (And.right (And.right (by assumption)))))))))))))) | exact rlt (And.right (And.right (And.right (And.right (And.right (And.right (And.right (And.right (And.right (And.right (And.right (And.right (And.right (by assumption)))))))))))))) | exact rgt (And.right (And.right (And.right (And.right (And.right (And.right (And.right (And.right (And.right (And.right (And.right (And.right (And.right (by assumption)))))))))))))) | exact rne (And.right (And.right (And.right (And.right (And.right (And.right (And.right (And.right (And.right (And.right (And.right (And.right (And.right (by assumption)))))))))))))) | exact ren (And.right (And.right (And.right (And.right (And.right (And.right (And.right (And.right (And.right (And.right (And.right (And.right (And.right (by assumption)))))))))))))) | exact qlt (And.right (And.right (And.right (And.right (And.right (And.right (And.right (And.right (And.right (And.right (And.right (And.right (And.right (And.right (by assumption))))))))))))))) | exact qgt (And.right (And.right (And.right (And.right (And.right (And.right (And.right (And.right (And.right (And.right (And.right (And.right (And.right (And.right (by assumption))))))))))))))) | exact qne (And.right (And.right (And.right (And.right (And.right (And.right (And.right (And.right (And.right (And.right (And.right (And.right (And.right (And.right (by assumption))))))))))))))) | exact qen (And.right (And.right (And.right (And.right (And.right (And.right (And.right (And.right (And.right (And.right (And.right (And.right (And.right (And.right (by assumption))))))))))))))) | exact rlt (And.right (And.right (And.right (And.right (And.right (And.right (And.right (And.right (And.right (And.right (And.right (And.right (And.right (And.right (by assumption))))))))))))))) | exact rgt (And.right (And.right (And.right (And.right (And.right (And.right (And.right (And.right (And.right (And.right (And.right (And.right (And.right (And.right (by assumption))))))))))))))) | exact rne (And.right (And.right (And.right (And.right (And.right (And.right (And.right (And.right (And.right (And.right (And.right (And.right (And.right (And.right (by assumption))))))))))))))) | exact ren (And.right (And.right (And.right (And.right (And.right (And.right (And.right (And.right (And.right (And.right (And.right (And.right (And.right (And.right (by assumption))))))))))))))) | exact qlt (And.right (And.right (And.right (And.right (And.right (And.right (And.right (And.right (And.right (And.right (And.right (And.right (And.right (And.right (And.right (by assumption)))))))))))))))) | exact qgt (And.right (And.right (And.right (And.right (And.right (And.right (And.right (And.right (And.right (And.right (And.right (And.right (And.right (And.right (And.right (by assumption)))))))))))))))) | exact qne (And.right (And.right (And.right (And.right (And.right (And.right (And.right (And.right (And.right (And.right (And.right (And.right (And.right (And.right (And.right (by assumption)))))))))))))))) | exact qen (And.right (And.right (And.right (And.right (And.right (And.right (And.right (And.right (And.right (And.right (And.right (And.right (And.right (And.right (And.right (by assumption)))))))))))))))) | exact rlt (And.right (And.right (And.right (And.right (And.right (And.right (And.right (And.right (And.right (And.right (And.right (And.right (And.right (And.right (And.right (by assumption)))))))))))))))) | exact rgt (And.right (And.right (And.right (And.right (And.right (And.right (And.right (And.right (And.right (And.right (And.right (And.right (And.right (And.right (And.right (by assumption)))))))))))))))) | exact rne (And.right (And.right (And.right (And.right (And.right (And.right (And.right (And.right (And.right (And.right (And.right (And.right (And.right (And.right (And.right (by assumption)))))))))))))))) | exact ren (And.right (And.right (And.right (And.right (And.right (And.right (And.right (And.right (And.right (And.right (And.right (And.right (And.right (And.right (And.right (by assumption))))))))))))))))))
  trivial
theorem layIni072 : True := by
  k_with "mine texts" => ((try dsimp only [← sx0, ← sx1, ← sx2, ← sx3, ← sx4, ← sx5, ← sx6, ← sx7, ← sx8, ← sx9, ← sx10, ← sx11, ← sx12, ← sx13, ← sx14, ← sx15, ← sx16, ← sx17, ← sx18, ← sx19, ← sx20, ← sx21, ← sx22, ← sx23, ← sx24, ← sx25, ← sx26, ← sx27, ← sx28, ← sx29, ← sx30, ← sx31, ← sx32, ← sx33, ← sx34, ← sx35, ← sx36, ← sx37, ← sx38, ← sx39, ← sx40, ← sx41, ← sx42, ← sx43, ← sx44, ← sx45, ← sx46, ← sx47, ← sx48, ← sx49, ← sx50, ← sx51, ← sx52, ← sx53, ← sx54, ← sx55, ← sx56, ← sx57, ← sx58, ← sx59, ← sx60, ← sx61, ← sx62, ← sx63, ← sx64, ← sx65, ← sx66, ← sx67, ← sx68, ← sx69, ← sx70, ← sx71, ← sx72, ← sx73, ← sx74, ← sx75, ← sx76, ← sx77, ← sx78, ← sx79, ← sx80, ← sx81, ← sx82, ← sx83, ← sx84, ← sx85, ← sx86, ← sx87, ← sx88, ← sx89, ← sx90, ← sx91, ← sx92, ← sx93, ← sx94, ← sx95, ← sx96, ← sx97, ← sx98, ← sx99, ← sx100, ← sx101, ← sx102, ← sx103, ← sx104, ← sx105, ← sx106, ← sx107, ← sx108, ← sx109]))
  k_with "mine drop" => (first | (refine' Drop.head ?a; (case a => k_all)) | (refine' Drop.tail ?a ?b; (case a => k_ne); (case b => walk_at "mine drop")))
  k_with "setAttr ref" => ((k_here; k_dflt (first | (refine' exc_set0 ?k1 ?k2 ?k3 ?k4 ?k5 ?k6 ?k7 ?k8 ?k9 ?_; (case k1 => k_asm); (case k2 => k_asm); (case k3 => k_asm); (case k4 => k_mem); (case k5 => k_is); (case k6 => kernel_rfl); (case k7 => k_is); (case k8 => k_is); (case k9 => intro zqd; k_upd); k_whole; intro zqdp zqhp zqFp zqNp zql1; (try k_lt zql1)) | (refine' exc_set_args ?k1 ?k2 ?k3 ?k4 ?k5 ?k6 ?k7 ?k8 ?k9 ?k10 ?_; (case k1 => k_asm); (case k2 => k_asm); (case k3 => k_asm); (case k4 => first | (refine' InstAt.of_exc ?N ?h1 ?h2; (case N => k_asm); (case h1 => k_mem); (case h2 => k_mem)) | (refine' InstAt.of_exc0 ?N ?h1; (case N => k_asm); (case h1 => k_mem))); (case k5 => exact isTup_of (by k_asm) (by k_mem)); (case k6 => k_is); (case k7 => kernel_rfl); (case k8 => k_is); (case k9 => k_is); (case k10 => k_upd); k_whole; intro zqhp zqFp zqNp) | (refine' exc_set ?k1 ?k2 ?k3 ?k4 ?k5 ?k6 ?k7 ?k8 ?k9 ?k10 ?k11 ?k12 ?_; (case k1 => k_asm); (case k2 => k_asm); (case k3 => k_asm); (case k4 => first | (refine' InstAt.of_exc ?N ?h1 ?h2; (case N => k_asm); (case h1 => k_mem); (case h2 => k_mem)) | (refine' InstAt.of_exc0 ?N ?h1; (case N => k_asm); (case h1 => k_mem))); (case k5 => k_is); (case k6 => kernel_rfl); (case k7 => k_is); (case k8 => k_is); (case k9 => k_get); (case k10 => k_put); (case k11 => k_upd); (case k12 => exact Nat.le_of_ble_eq_true rfl); k_whole; intro zqhp zqFp zqNp))))
  k_with "call builtin:Exception.__init__" => ((k_here; k_dflt (refine' exc_init_call ?k1 ?k2 ?k3 ?k4 ?k5 ?k6 ?_; (case k1 => k_asm); (case k2 => k_asm); (case k3 => k_asm); (case k4 => first | (refine' InstAt.of_exc ?N ?h1 ?h2; (case N => k_asm); (case h1 => k_mem); (case h2 => k_mem)) | (refine' InstAt.of_exc0 ?N ?h1; (case N => k_asm); (case h1 => k_mem))); (case k5 => k_is); (case k6 => intro zqt; k_upd); k_whole; intro zqtp zqhp zqFp zqNp zql1; (try k_lt zql1))))
  k_with "call builtin:repr" => ((k_here; k_dflt (refine' repr_use ?k1 ?k2 ?k3 ?k4 ?k5 ?k6 ?k7 ?_; (case k1 => assumption); (case k2 => k_asm); (case k3 => k_asm); (case k4 => exact rfl); (case k5 => exact rfl); (case k6 => exact Nat.le_of_ble_eq_true rfl); (case k7 => exact Nat.le_of_ble_eq_true rfl); k_whole; intro zqhp zqup zqtkp zqFp zqNp)))
  k_with "BackIn" => ((k_dflt (refine' back_ ?k1 ?k2 ?k3 ?_; (case k1 => k_asm); (case k2 => k_asm); (case k3 => walk_at "mine drop"); k_whole; intro zqFp zqNp; (try dsimp only))))
  k_with "call ref" => ((k_here; k_dflt (refine wpAny_call ?_; refine' enter_in ?k1 ?k2 ?k3 ?k4 ?k5 ?k6 ?k7 ?k8 ?kB ?c2 ?c3 ?c4 ?c5 ?_; (case k1 => k_asm); (case k2 => k_asm); (case k3 => k_asm); (case k4 => exact Top.nolimit (by assumption)); (case k5 => k_is); (case k6 => k_is); (case k7 => exact Nat.le_of_ble_eq_true rfl); (case k8 => first | ((with_reducible show BindsTo _ _ ⟨[_], []⟩ _); first | exact BindsTo.of_eq (binds := [(_, _)]) rfl | exact binds_K (binds := [(_, _)]) (by k_in) rfl (by k_is) rfl rfl rfl) | ((with_reducible show BindsTo _ _ ⟨[_, _], []⟩ _); first | exact BindsTo.of_eq (binds := [(_, _), (_, _)]) rfl | exact binds_K (binds := [(_, _), (_, _)]) (by k_in) rfl (by k_is) rfl rfl rfl) | ((with_reducible show BindsTo _ _ ⟨[_, _, _], []⟩ _); first | exact BindsTo.of_eq (binds := [(_, _), (_, _), (_, _)]) rfl | exact binds_K (binds := [(_, _), (_, _), (_, _)]) (by k_in) rfl (by k_is) rfl rfl rfl) | ((with_reducible show BindsTo _ _ ⟨[_, _, _, _], []⟩ _); first | exact BindsTo.of_eq (binds := [(_, _), (_, _), (_, _), (_, _)]) rfl | exact binds_K (binds := [(_, _), (_, _), (_, _), (_, _)]) (by k_in) rfl (by k_is) rfl rfl rfl) | ((with_reducible show BindsTo _ _ ⟨[_, _, _, _, _], []⟩ _); first | exact BindsTo.of_eq (binds := [(_, _), (_, _), (_, _), (_, _), (_, _)]) rfl | exact binds_K (binds := [(_, _), (_, _), (_, _), (_, _), (_, _)]) (by k_in) rfl (by k_is) rfl rfl rfl)); (case c5 => decide); (case kB => exact locs rfl); (case c2 => exact rfl); (case c3 => exact rfl); (case c4 => exact rfl); k_whole; intro zqoLp zqLp zqhp zqtkp zqFp zqNp zql1 zqn1; (try k_lt zql1); (try (replace zqn1 := allNe_of zqn1; simp only [AllNe, and_true] at zqn1)); (try dsimp only); walk_at "mine texts")))
  k_with "call builtin:str.join" => ((k_here; (with_reducible show wpAny _ _ (call (Value.builtin "str.join") [Value.str _ _, Value.ref _]) _ _ _); k_dflt (refine join_listC (by is_list) (by repeat constructor) (by decide) (by (simp only [List.map_cons, List.map_nil, List.sum_cons, List.sum_nil, List.length_cons, List.length_nil]; omega)) ?_); intro zqtp zqkp))
  k_with "getMethod type:Exception" => ((k_here; refine' method_type ?F ?X ?m (by decide +kernel) ?e ?h ?_; (case F => k_asm); (case X => k_asm); (case m => exact meta_Exception); (case e => k_dflt k_is); (case h => k_handed)))
  k_with "compareOp IsNot" => ((k_here; k_dflt (refine isNot_none (by assumption) ?_)))
  k_with "call builtin:str.format" => ((k_here; k_dflt (refine' line_use ?k1 ?k2 ?k3 ?k4 ?k5 ?k6 ?k7 ?_; (case k1 => assumption); (case k2 => k_asm); (case k3 => k_asm); (case k4 => exact rfl); (case k5 => exact rfl); (case k6 => exact Nat.le_of_ble_eq_true rfl); (case k7 => exact Nat.le_of_ble_eq_true rfl); k_whole; intro zqhp zqup zqtkp zqFp zqNp)))
  k_with "call builtin:str.format" => ((k_here; (with_reducible show wpAny _ _ (call (Value.builtin "str.format") [Value.str _ _, _, _, _, _]) _ _ _); k_dflt (refine' fmt_use ?k1 ?k2 ?k3 ?k4 ?k5 ?_; (case k1 => k_asm); (case k2 => k_asm); (case k3 => exact ⟨rfl, rfl, Nat.le_of_ble_eq_true rfl, Nat.le_of_ble_eq_true rfl⟩); (case k4 => exact args_5 _ _ _ _ _); (case k5 => walk_at "mine fmt")); k_whole; intro zqhp zqup zqtkp zqFp zqNp))
  k_with "pyReprObj" => ((k_here; k_dflt (refine' reprObj_use ?k1 ?k2 ?k3 ?k4 ?k5 ?k6 ?k7 ?_; (case k1 => assumption); (case k2 => k_asm); (case k3 => k_asm); (case k4 => exact rfl); (case k5 => exact rfl); (case k6 => exact Nat.le_of_ble_eq_true rfl); (case k7 => exact Nat.le_of_ble_eq_true rfl); k_whole; intro zqhp zqup zqtkp zqFp zqNp)))
  trivial
def iniB (K : Frag) (C : Addr) : Bool := (findIn K (.ref C) "__setattr__" == some (some (.builtin "object.__setattr__"))) && excOver K C && (takerIn K C "message" == some none) && hasDictIn K C && (subIn K (.ref C) (.type "Exception") == some true)
def Halt (P : Prop) : Prop := P
theorem layIni073 : True := by
  k_with "setAttr ref" => ((k_here; refine (show Halt _ from ?_)))
  k_with "call builtin:Exception.__init__" => ((k_here; refine (show Halt _ from ?_)))
  k_with "BackIn" => ((refine (show Halt _ from ?_)))
  trivial
theorem errIni : ∀ {p : Program} {loose : List Str} {mean : ExcName → Option Value} {mg mb : Str → Option Value} {w : World} {A : Around} {E : Value → Shared → Prop} {s : Shared} {h₀ : Heap} {L : Addr} {m : Str → Option Value} {news : List (Addr × Obj)} {gg : Obj → List (Addr × Obj)} {x ta C : Addr} {msg : Str} {u : Tok} {Q : Value → Shared → Prop}
    (F : Fr h₀ L s.heap m) (KX : (hz.heap_193 w.params).In h₀) (T : Top p loose mean mg mb h₀) (N : News h₀ L s.heap news) (U : UpdF x (excObj C none ta) news gg) (hC : iniB (hz.heap_193 w.params) C = true) (hA : A.depth < 900)
    (hQ : ∀ d t h' tk uk, Fr h₀ L h' m → News h₀ L h' ((t, tupObj [.str msg u]) :: (d, dictOf [⟨PyData.keyHash w.params "message", .str "message" uk, .str msg u⟩] 1) :: gg (excObj C (some d) t)) → (∀ p ∈ news, p.1 < d) → (∀ p ∈ news, p.1 < t) → d < t → Q .none { s with heap := h', toks := tk }),
    wpAny (model PySem.Challenge.rw_dm0028_07.prog w) A (call (.ref 29) [.ref x, .str msg u]) Q E s := by
  w_top off
  k_fill
  intro p loose mean mg mb w A E s h₀ L m news gg x ta C msg u Q F KX T N U hC hA hQ
  simp only [iniB, Bool.and_eq_true, beq_iff_eq] at hC
  obtain ⟨hh, g, dr, tk, os⟩ := s
  dsimp only at F N hQ
  w_strict (
  refine wpAny_call ?_
  k_dflt (refine' enter_in F KX N T.nolimit ?k5 ?k6 ?k7 ?k8 ?kB ?c2 ?c3 ?c4 ?c5 ?_; (case k5 => k_is); (case k6 => k_is); (case k7 => exact Nat.lt_of_lt_of_le hA (Nat.le_of_ble_eq_true rfl)); (case k8 => first | exact BindsTo.of_eq (binds := [(_, _), (_, _)]) rfl | exact binds_K (binds := [(_, _), (_, _)]) (KX.keeps F.keep) rfl (by k_is) rfl rfl rfl); (case c5 => decide); (case kB => exact locs rfl); (case c2 => exact rfl); (case c3 => exact rfl); (case c4 => exact rfl))
  intro oL L' h' tk' F' N' l1 l2
  clear F N
  walk_at "mine texts"
  k_steps
  unfold Halt
  have hxL : L ≠ x := fun e => l2 _ (updF_mem U).1 e.symm
  refine exc_set0 F' KX N' (.tail _ (updF_mem U).1) hC.1.1.1.1 hC.1.1.1.2 hC.1.1.2 hC.1.2 (fun d => .tail hxL (updF_to U _)) ?_
  intro d h1 F1 N1 l3
  clear F' N'
  k_steps
  unfold Halt
  have l5 : ∀ p ∈ news, p.1 < d := fun p hp => l3 p (.tail _ hp)
  have hxd : x < d := l5 _ (updF_mem U).1
  refine exc_init_call F1 KX N1 (InstAt.of_exc N1 (.tail _ (.tail _ ((updF_mem U).2 _).1)) (.head _)) hC.2 (fun t => .tail (Nat.ne_of_gt hxd) (.tail hxL (updF_on U _ _))) ?_
  intro t h2 F2 N2 l4
  clear F1 N1
  k_steps
  unfold Halt
  have l6 : L < t := l4 _ (.tail _ (.head _))
  have l7 : d < t := l4 _ (.head _)
  have l8 : L < d := l3 _ (.head _)
  intro hb
  have D : ∀ od : Obj, Drop L oL ((t, tupObj [.str msg u]) :: (d, od) :: (L, oL) :: gg (excObj C (some d) t)) ((t, tupObj [.str msg u]) :: (d, od) :: gg (excObj C (some d) t)) := fun od => Drop.tail (p := (t, tupObj [.str msg u])) (Nat.ne_of_gt l6) (Drop.tail (p := (d, od)) (Nat.ne_of_gt l8) (Drop.head (updF_ne (o' := excObj C (some d) t) U l2)))
  have F3 := hb _ (N2 _ (.tail _ (.tail _ (.head _)))).1 F2.keep
  have N3 := fun p hp => (⟨(N2 p ((D _).sub p hp).1).1, ((D _).sub p hp).2, (N2 p ((D _).sub p hp).1).2.2⟩ : _ ∧ _ ∧ _)
  exact hQ d t h2 _ _ F3 N3 l5 (fun p hp => Nat.lt_trans (l5 p hp) l7) l7)
end
section
open PySem PySem.W PySem.Calls PyProof.Rows PySem.SeqAt
set_option Elab.async false
set_option maxRecDepth 100000
set_option maxHeartbeats 4000000
set_option linter.unusedVariables false
section
variable {prog : Program} {w : World} {A : Around} {E : Value → Shared → Prop} {s : Shared} {h₀ : Heap} {L : Addr} {m : Str → Option Value} {news : List (Addr × Obj)} {Q : Value → Shared → Prop} {value slice : PySem.Expr}
theorem item_tupH {a : Addr} {xs : List Value} {j : Int} {u : Tok} {v : Value} (k : Nat) (hj : j = k) (ho : s.heap.get? a = some (tupObj xs)) (hx : xs[k]? = some v) (hl : xs.length ≤ 10) (h : Q v s)
    (hs : subscripted slice false (.ref a) (.int j u) = operate [.ref a, .int j u] (getItem (.ref a) (.int j u)) := by with_unfolding_all rfl) :
    wpAny (model prog w) A (subscriptTail value slice (.ref a) (.int j u)) Q E s := by
  subst hj
  have hk : k < xs.length := by
    rcases Nat.lt_or_ge k xs.length with q | q
    · exact q
    · rw [List.getElem?_eq_none q] at hx; cases hx
  refine item_tupleT (j := k) ⟨_, ho, rfl, _, rfl⟩ (by omega) (by omega) ?_ hx h hs
  unfold seqIndex?
  simp
  omega
theorem item_tmpK {l : Addr} {items : List PySem.Value} {k : Int} {u : Tok} {x : Str} (hl : s.heap.IsList l items.toArray) (h0 : 0 ≤ k) (hz : items.length ≤ 1000) (hx : ∃ u, items[k.toNat]? = some (.str x u))
    (h : ∀ u, Q (.str x u) s) (hs : subscripted slice false (.ref l) (.int k u) = operate [.ref l, .int k u] (getItem (.ref l) (.int k u)) := by with_unfolding_all rfl) :
    wpAny (model prog w) A (subscriptTail value slice (.ref l) (.int k u)) Q E s := by
  obtain ⟨ux, hx⟩ := hx
  have hT := hl.typeIs
  have hkn : k.toNat < items.length := (List.getElem?_eq_some_iff.mp hx).1
  unfold subscriptTail
  refine wpAny_bind ?_
  rw [getitemInPython_of_ne hT.not_modules]
  refine wpAny_bind (wpAny_specialOf hT slot_list_getitem.lookup ?_)
  have fin : wpAny (model prog w) A (subscripted slice false (.ref l) (.int k u)) (fun r s₃ => wpAny (model prog w) A (letTemporaryGo value (.ref l) r >>= fun _ => pure r) Q E s₃) E s := by
    rw [hs]
    refine wpAny_operating (wpAny_getItem_list hl h0 (by omega) (x := .str x ux) (by simpa using hx) ?_)
    exact wpAny_bind (wpAny_letTemporaryGo (wpAny_pure (h _)))
  first
    | exact wpAny_pure (wpAny_bind fin)
    | exact wpAny_bind (wpAny_pure (wpAny_bind fin))
    | exact wpAny_bind fin
theorem few_list {ns : List Int} (f : Few ns) : (PyData.list (ns.map .int)).shown.length ≤ 300010 := by
  have hj := join_small (few_short f) (by rw [all_len, List.length_map]; have := f.1; omega)
  show (listText (PyData.shownAll (ns.map .int))).length ≤ 300010
  rw [← list_text, PySem.Str.length_append, PySem.Str.length_append]
  have h1 : (Str.ofString "[").length = 1 := rfl
  have h2 : (Str.ofString "]").length = 1 := rfl
  omega
end
end
section
theorem layW07s1 : True := by
  k_with_none
  k_with "ne" => (with_reducible (first | exact ns1 | exact ns2 | exact qlt (by assumption) | exact qgt (by assumption) | exact qne (by assumption) | exact qen (by assumption) | exact rlt (by assumption) | exact rgt (by assumption) | exact rne (by assumption) | exact ren (by assumption) | exact qlt (And.right (by assumption)) | exact qgt (And.right (by assumption)) | exact qne (And.right (by assumption)) | exact qen (And.right (by assumption)) | exact rlt (And.right (by assumption)) | exact rgt (And.right (by assumption)) | exact rne (And.right (by assumption)) | exact ren (And.right (by assumption)) | exact qlt (And.right (And.right (by assumption))) | exact qgt (And.right (And.right (by assumption))) | exact qne (And.right (And.right (by assumption))) | exact qen (And.right (And.right (by assumption))) | exact rlt (And.right (And.right (by assumption))) | exact rgt (And.right (And.right (by assumption))) | exact rne (And.right (And.right (by assumption))) | exact ren (And.right (And.right (by assumption))) | exact qlt (And.right (And.right (And.right (by assumption)))) | exact qgt (And.right (And.right (And.right (by assumption)))) | exact qne (And.right (And.right (And.right (by assumption)))) | exact qen (And.right (And.right (And.right (by assumption)))) | exact rlt (And.right (And.right (And.right (by assumption)))) | exact rgt (And.right (And.right (And.right (by assumption)))) | exact rne (And.right (And.right (And.right (by assumption)))) | exact ren (And.right (And.right (And.right (by assumption)))) | exact qlt (And.right (And.right (And.right (And.right (by assumption))))) | exact qgt (And.right (And.right (And.right (And.right (by assumption))))) | exact qne (And.right (And.right (And.right (And.right (by assumption))))) | exact qen (And.right (And.right (And.right (And.right (by assumption))))) | exact rlt (And.right (And.right (And.right (And.right (by assumption))))) | exact rgt (And.right (And.right (And.right (And.right (by assumption))))) | exact rne (And.right (And.right (And.right (And.right (by assumption))))) | exact ren (And.right (And.right (And.right (And.right (by assumption))))) | exact qlt (And.right (And.right (And.right (And.right (And.right (by assumption)))))) | exact qgt (And.right (And.right (And.right (And.right (And.right (by assumption)))))) | exact qne (And.right (And.right (And.right (And.right (And.right (by assumption)))))) | exact qen (And.right (And.right (And.right (And.right (And.right (by assumption)))))) | exact rlt (And.right (And.right (And.right (And.right (And.right (by assumption)))))) | exact rgt (And.right (And.right (And.right (And.right (And.right (by assumption)))))) | exact rne (And.right (And.right (And.right (And.right (And.right (by assumption)))))) | exact ren (And.right (And.right (And.right (And.right (And.right (by assumption)))))) | exact qlt (And.right (And.right (And.right (And.right (And.right (And.right (by assumption))))))) | exact qgt (And.right (And.right (And.right (And.right (And.right (And.right (by assumption))))))) | exact qne (And.right (And.right (And.right (And.right (And.right (And.right (by assumption))))))) | exact qen (And.right (And.right (And.right (And.right (And.right (And.right (by assumption))))))) | exact rlt (And.right (And.right (And.right (And.right (And.right (And.right (by assumption))))))) | exact rgt (And.right (And.right (And.right (And.right (And.right (And.right (by assumption))))))) | exact rne (And.right (And.right (And.right (And.right (And.right (And.right (by assumption))))))) | exact ren (And.right (And.right (And.right (And.right (And.right (And.right (by assumption))))))) | exact qlt (And.right (And.right (And.right (And.right (And.right (And.right (And.right (by assumption)))))))) | exact qgt (And.right (And.right (And.right (And.right (And.right (And.right (And.right (by assumption)))))))) | exact qne (And.right (And.right (And.right (And.right (And.right (And.right (And.right (by assumption)))))))) | exact qen (And.right (And.right (And.right (And.right (And.right (And.right (And.right (by assumption)))))))) | exact rlt (And.right (And.right (And.right (And.right (And.right (And.right (And.right (by assumption)))))))) | exact rgt (And.right (And.right (And.right (And.right (And.right (And.right (And.right (by assumption)))))))) | exact rne (And.right (And.right (And.right (And.right (And.right (And.right (And.right (by assumption)))))))) | exact ren (And.right (And.right (And.right (And.right (And.right (And.right (And.right (by assumption)))))))) | exact qlt (And.right (And.right (And.right (And.right (And.right (And.right (And.right (And.right (by assumption))))))))) | exact qgt (And.right (And.right (And.right (And.right (And.right (And.right (And.right (And.right (by assumption))))))))) | exact qne (And.right (And.right (And.right (And.right (And.right (And.right (And.right (And.right (by assumption))))))))) | exact qen (And.right (And.right (And.right (And.right (And.right (And.right (And.right (And.right (by assumption))))))))) | exact rlt (And.right (And.right (And.right (And.right (And.right (And.right (And.right (And.right (by assumption))))))))) | exact rgt (And.right (And.right (And.right (And.right (And.right (And.right (And.right (And.right (by assumption))))))))) | exact rne (And.right (And.right (And.right (And.right (And.right (And.right (And.right (And.right (by assumption))))))))) | exact ren (And.right (And.right (And.right (And.right (And.right (And.right (And.right (And.right (by assumption))))))))) | exact qlt (And.right (And.right (And.right (And.right (And.right (And.right (And.right (And.right (And.right (by assumption)))))))))) | exact qgt (And.right (And.right (And.right (And.right (And.right (And.right (And.right (And.right (And.right (by assumption)))))))))) | exact qne (And.right (And.right (And.right (And.right (And.right (And.right (And.right (And.right (And.right (by assumption)))))))))) | exact qen (And.right (And.right (And.right (And.right (And.right (And.right (And.right (And.right (And.right (by assumption)))))))))) | exact rlt (And.right (And.right (And.right (And.right (And.right (And.right (And.right (And.right (And.right (by assumption)))))))))) | exact rgt (And.right (And.right (And.right (And.right (And.right (And.right (And.right (And.right (And.right (by assumption)))))))))) | exact rne (And.right (And.right (And.right (And.right (And.right (And.right (And.right (And.right (And.right (by assumption)))))))))) | exact ren (And.right (And.right (And.right (And.right (And.right (And.right (And.right (And.right (And.right (by assumption)))))))))) | exact qlt (And.right (And.right (And.right (And.right (And.right (And.right (And.right (And.right (And.right (And.right (by assumption))))))))))) | exact qgt (And.right (And.right (And.right (And.right (And.right (And.right (And.right (And.right (And.right (And.right (by assumption))))))))))) | exact qne (And.right (And.right (And.right (And.right (And.right (And.right (And.right (And.right (And.right (And.right (by assumption))))))))))) | exact qen (And.right (And.right (And.right (And.right (And.right (And.right (And.right (And.right (And.right (And.right (by assumption))))))))))) | exact rlt (And.right (And.right (And.right (And.right (And.right (And.right (And.right (And.right (And.right (And.right (by assumption))))))))))) | exact rgt (And.right (And.right (And.right (And.right (And.right (And.right (And.right (And.right (And.right (And.right (by assumption))))))))))) | exact rne (And.right (And.right (And.right (And.right (And.right (And.right (And.right (And.right (And.right (And.right (by assumption))))))))))) | exact ren (And.right (And.right (And.right (And.right (And.right (And.right (And.right (And.right (And.right (And.right (by assumption))))))))))) | exact qlt (And.right (And.right (And.right (And.right (And.right (And.right (And.right (And.right (And.right (And.right (And.right (by assumption)))))))))))) | exact qgt (And.right (And.right (And.right (And.right (And.right (And.right (And.right (And.right (And.right (And.right (And.right (by assumption)))))))))))) | exact qne (And.right (And.right (And.right (And.right (And.right (And.right (And.right (And.right (And.right (And.right (And.right (by assumption)))))))))))) | exact qen (And.right (And.right (And.right (And.right (And.right (And.right (And.right (And.right (And.right (And.right (And.right (by assumption)))))))))))) | exact rlt (And.right (And.right (And.right (And.right (And.right (And.right (And.right (And.right (And.right (And.right (And.right (by assumption)))))))))))) | exact rgt (And.right (And.right (And.right (And.right (And.right (And.right (And.right (And.right (And.right (And.right (And.right (by assumption)))))))))))) | exact rne (And.right (And.right (And.right (And.right (And.right (And.right (And.right (And.right (And.right (And.right (And.right (by assumption)))))))))))) | exact ren (And.right (And.right (And.right (And.right (And.right (And.right (And.right (And.right (And.right (And.right (And.right (by assumption)))))))))))) | exact qlt (And.right (And.right (And.right (And.right (And.right (And.right (And.right (And.right (And.right (And.right (And.right (And.right (by assumption))))))))))))) | exact qgt (And.right (And.right (And.right (And.right (And.right (And.right (And.right (And.right (And.right (And.right (And.right (And.right (by assumption))))))))))))) | exact qne (And.right (And.right (And.right (And.right (And.right (And.right (And.right (And.right (And.right (And.right (And.right (And.right (by assumption))))))))))))) | exact qen (And.right (And.right (And.right (And.right (And.right (And.right (And.right (And.right (And.right (And.right (And.right (And.right (by assumption))))))))))))) | exact rlt (And.right (And.right (And.right (And.right (And.right (And.right (And.right (And.right (And.right (And.right (And.right (And.right (by assumption))))))))))))) | exact rgt (And.right (And.right (And.right (And.right (And.right (And.right (And.right (And.right (And.right (And.right (And.right (And.right (by assumption))))))))))))) | exact rne (And.right (And.right (And.right (And.right (And.right (And.right (And.right (And.right (And.right (And.right (And.right (And.right (by assumption))))))))))))) | exact ren (And.right (And.right (And.right (And.right (And.right (And.right (And.right (And.right (And.right (And.right (And.right (And.right (by assumption))))))))))))) | exact qlt (And.right (And.right (And.right (And.right (And.right (And.right (And.right (And.right (And.right (And.right (And.right (And.right (And.right (by assumption)))))))))))))) | exact qgt (And.right (And.right (And.right (And.right (And.right (And.right (And.right (And.right (And.right (And.right (And.right (And.right (And.right (by assumption)))))))))))))) | exact qne (And.right (And.right (And.right (And.right (And.right (And.right (And.right (And.right (And.right (And.right (And.right (And.right (And.right (by assumption)))))))))))))) | exact qen (And.right (And.right (And.right (And.right (And.right (And.right (And.right (And.right (And.right (And.right (And.right (And.right (And.right (by assumption)))))))))))))) | exact rlt (And.right (And.right (And.right (And.right (And.right (And.right (And.right (And.right (And.right (And.right (And.right (And.right (And.right (by assumption)))))))))))))) | exact rgt (And.right (And.right (And.right (And.right (And.right (And.right (And.right (And.right (And.right (And.right (And.right (And.right (And.right (by assumption)))))))))))))) | exact rne (And.right (And.right (And.right (And.right (And.right (And.right (And.right (And.right (And.right (And.right (And.right (And.right (And.right (by assumption)))))))))))))) | exact ren (And.right (And.right (And.right (And.right (And.right (And.right (And.right (And.right (And.right (And.right (And.right (And.right (And.right (by assumption)))))))))))))) | exact qlt (And.right (And.right (And.right (And.right (And.right (And.right (And.right (And.right (And.right (And.right (And.right (And.right (And.right (And.right (by assumption))))))))))))))) | exact qgt (And.right (And.right (And.right (And.right (And.right (And.right (And.right (And.right (And.right (And.right (And.right (And.right (And.right (And.right (by assumption))))))))))))))) | exact qne (And.right (And.right (And.right (And.right (And.right (And.right (And.right (And.right (And.right (And.right (And.right (And.right (And.right (And.right (by assumption))))))))))))))) | exact qen (And.right (And.right (And.right (And.right (And.right (And.right (And.right (And.right (And.right (And.right (And.right (And.right (And.right (And.right (by assumption))))))))))))))) | exact rlt (And.right (And.right (And.right (And.right (And.right (And.right (And.right (And.right (And.right (And.right (And.right (And.right (And.right (And.right (by assumption))))))))))))))) | exact rgt (And.right (And.right (And.right (And.right (And.right (And.right (And.right (And.right (And.right (And.right (And.right (And.right (And.right (And.right (by assumption))))))))))))))) | exact rne (And.right (And.right (And.right (And.right (And.right (And.right (And.right (And.right (And.right (And.right (And.right (And.right (And.right (And.right (by assumption))))))))))))))) | exact ren (And.right (And.right (And.right (And.right (And.right (And.right (And.right (And.right (And.right (And.right (And.right (And.right (And.right (And.right (by assumption))))))))))))))) | exact qlt (And.right (And.right (And.right (And.right (And.right (And.right (And.right (And.right (And.right (And.right (And.right (And.right (And.right (And.right (And.right (by assumption)))))))))))))))) | exact qgt (And.right (And.right (And.right (And.right (And.right (And.right (And.right (And.right (And.right (And.right (And.right (And.right (And.right (And.right (And.right (by assumption)))))))))))))))) | exact qne (And.right (And.right (And.right (And.right (And.right (And.right (And.right (And.right (And.right (And.right (And.right (And.right (And.right (And.right (And.right (by assumption)))))))))))))))) | exact qen (And.right (And.right (And.right (And.right (And.right (And.right (And.right (And.right (And.right (And.right (And.right (And.right (And.right (And.right (And.right (by assumption)))))))))))))))) | exact rlt (And.right (And.right (And.right (And.right (And.right (And.right (And.right (And.right (And.right (And.right (And.right (And.right (And.right (And.right (And.right (by assumption)))))))))))))))) | exact rgt (And.right (And.right (And.right (And.right (And.right (And.right (And.right (And.right (And.right (And.right (And.right (And.right (And.right (And.right (And.right (by assumption)))))))))))))))) | exact rne (And.right (And.right (And.right (And.right (And.right (And.right (And.right (And.right (And.right (And.right (And.right (And.right (And.right (And.right (And.right (by assumption)))))))))))))))) | exact ren (And.right (And.right (And.right (And.right (And.right (And.right (And.right (And.right (And.right (And.right (And.right (And.right (And.right (And.right (And.right (by assumption))))))))))))))))))
  trivial
theorem layW07s2 : True := by
  k_with "mine texts" => ((try dsimp only [← sx0, ← sx1, ← sx2, ← sx3, ← sx4, ← sx5, ← sx6, ← sx7, ← sx8, ← sx9, ← sx10, ← sx11, ← sx12, ← sx13, ← sx14, ← sx15, ← sx16, ← sx17, ← sx18, ← sx19, ← sx20, ← sx21, ← sx22, ← sx23, ← sx24, ← sx25, ← sx26, ← sx27, ← sx28, ← sx29, ← sx30, ← sx31, ← sx32, ← sx33, ← sx34, ← sx35, ← sx36, ← sx37, ← sx38, ← sx39, ← sx40, ← sx41, ← sx42, ← sx43, ← sx44, ← sx45, ← sx46, ← sx47, ← sx48, ← sx49, ← sx50, ← sx51, ← sx52, ← sx53, ← sx54, ← sx55, ← sx56, ← sx57, ← sx58, ← sx59, ← sx60, ← sx61, ← sx62, ← sx63, ← sx64, ← sx65, ← sx66, ← sx67, ← sx68, ← sx69, ← sx70, ← sx71, ← sx72, ← sx73, ← sx74, ← sx75, ← sx76, ← sx77, ← sx78, ← sx79, ← sx80, ← sx81, ← sx82, ← sx83, ← sx84, ← sx85, ← sx86, ← sx87, ← sx88, ← sx89, ← sx90, ← sx91, ← sx92, ← sx93, ← sx94, ← sx95, ← sx96, ← sx97, ← sx98, ← sx99, ← sx100, ← sx101, ← sx102, ← sx103, ← sx104, ← sx105, ← sx106, ← sx107, ← sx108, ← sx109]))
  k_with "mine drop" => (first | (refine' Drop.head ?a; (case a => k_all)) | (refine' Drop.tail ?a ?b; (case a => k_ne); (case b => walk_at "mine drop")))
  k_with "setAttr ref" => ((k_here; k_dflt (first | (refine' exc_set0 ?k1 ?k2 ?k3 ?k4 ?k5 ?k6 ?k7 ?k8 ?k9 ?_; (case k1 => k_asm); (case k2 => k_asm); (case k3 => k_asm); (case k4 => k_mem); (case k5 => k_is); (case k6 => kernel_rfl); (case k7 => k_is); (case k8 => k_is); (case k9 => intro zqd; k_upd); k_whole; intro zqdp zqhp zqFp zqNp zql1; (try k_lt zql1)) | (refine' exc_set_args ?k1 ?k2 ?k3 ?k4 ?k5 ?k6 ?k7 ?k8 ?k9 ?k10 ?_; (case k1 => k_asm); (case k2 => k_asm); (case k3 => k_asm); (case k4 => first | (refine' InstAt.of_exc ?N ?h1 ?h2; (case N => k_asm); (case h1 => k_mem); (case h2 => k_mem)) | (refine' InstAt.of_exc0 ?N ?h1; (case N => k_asm); (case h1 => k_mem))); (case k5 => exact isTup_of (by k_asm) (by k_mem)); (case k6 => k_is); (case k7 => kernel_rfl); (case k8 => k_is); (case k9 => k_is); (case k10 => k_upd); k_whole; intro zqhp zqFp zqNp) | (refine' exc_set ?k1 ?k2 ?k3 ?k4 ?k5 ?k6 ?k7 ?k8 ?k9 ?k10 ?k11 ?k12 ?_; (case k1 => k_asm); (case k2 => k_asm); (case k3 => k_asm); (case k4 => first | (refine' InstAt.of_exc ?N ?h1 ?h2; (case N => k_asm); (case h1 => k_mem); (case h2 => k_mem)) | (refine' InstAt.of_exc0 ?N ?h1; (case N => k_asm); (case h1 => k_mem))); (case k5 => k_is); (case k6 => kernel_rfl); (case k7 => k_is); (case k8 => k_is); (case k9 => k_get); (case k10 => k_put); (case k11 => k_upd); (case k12 => exact Nat.le_of_ble_eq_true rfl); k_whole; intro zqhp zqFp zqNp))))
  k_with "call builtin:Exception.__init__" => ((k_here; k_dflt (refine' exc_init_call ?k1 ?k2 ?k3 ?k4 ?k5 ?k6 ?_; (case k1 => k_asm); (case k2 => k_asm); (case k3 => k_asm); (case k4 => first | (refine' InstAt.of_exc ?N ?h1 ?h2; (case N => k_asm); (case h1 => k_mem); (case h2 => k_mem)) | (refine' InstAt.of_exc0 ?N ?h1; (case N => k_asm); (case h1 => k_mem))); (case k5 => k_is); (case k6 => intro zqt; k_upd); k_whole; intro zqtp zqhp zqFp zqNp zql1; (try k_lt zql1))))
  k_with "call builtin:repr" => ((k_here; k_dflt (refine' repr_use ?k1 ?k2 ?k3 ?k4 ?k5 ?k6 ?k7 ?_; (case k1 => assumption); (case k2 => k_asm); (case k3 => k_asm); (case k4 => exact rfl); (case k5 => exact rfl); (case k6 => exact Nat.le_of_ble_eq_true rfl); (case k7 => exact Nat.le_of_ble_eq_true rfl); k_whole; intro zqhp zqup zqtkp zqFp zqNp)))
  k_with "BackIn" => ((k_dflt (refine' back_ ?k1 ?k2 ?k3 ?_; (case k1 => k_asm); (case k2 => k_asm); (case k3 => walk_at "mine drop"); k_whole; intro zqFp zqNp; (try dsimp only))))
  k_with "call ref" => ((k_here; k_dflt (refine wpAny_call ?_; refine' enter_in ?k1 ?k2 ?k3 ?k4 ?k5 ?k6 ?k7 ?k8 ?kB ?c2 ?c3 ?c4 ?c5 ?_; (case k1 => k_asm); (case k2 => k_asm); (case k3 => k_asm); (case k4 => exact Top.nolimit (by assumption)); (case k5 => k_is); (case k6 => k_is); (case k7 => exact Nat.le_of_ble_eq_true rfl); (case k8 => first | ((with_reducible show BindsTo _ _ ⟨[_], []⟩ _); first | exact BindsTo.of_eq (binds := [(_, _)]) rfl | exact binds_K (binds := [(_, _)]) (by k_in) rfl (by k_is) rfl rfl rfl) | ((with_reducible show BindsTo _ _ ⟨[_, _], []⟩ _); first | exact BindsTo.of_eq (binds := [(_, _), (_, _)]) rfl | exact binds_K (binds := [(_, _), (_, _)]) (by k_in) rfl (by k_is) rfl rfl rfl) | ((with_reducible show BindsTo _ _ ⟨[_, _, _], []⟩ _); first | exact BindsTo.of_eq (binds := [(_, _), (_, _), (_, _)]) rfl | exact binds_K (binds := [(_, _), (_, _), (_, _)]) (by k_in) rfl (by k_is) rfl rfl rfl) | ((with_reducible show BindsTo _ _ ⟨[_, _, _, _], []⟩ _); first | exact BindsTo.of_eq (binds := [(_, _), (_, _), (_, _), (_, _)]) rfl | exact binds_K (binds := [(_, _), (_, _), (_, _), (_, _)]) (by k_in) rfl (by k_is) rfl rfl rfl) | ((with_reducible show BindsTo _ _ ⟨[_, _, _, _, _], []⟩ _); first | exact BindsTo.of_eq (binds := [(_, _), (_, _), (_, _), (_, _), (_, _)]) rfl | exact binds_K (binds := [(_, _), (_, _), (_, _), (_, _), (_, _)]) (by k_in) rfl (by k_is) rfl rfl rfl)); (case c5 => decide); (case kB => exact locs rfl); (case c2 => exact rfl); (case c3 => exact rfl); (case c4 => exact rfl); k_whole; intro zqoLp zqLp zqhp zqtkp zqFp zqNp zql1 zqn1; (try k_lt zql1); (try (replace zqn1 := allNe_of zqn1; simp only [AllNe, and_true] at zqn1)); (try dsimp only); walk_at "mine texts")))
  k_with "call builtin:str.join" => ((k_here; (with_reducible show wpAny _ _ (call (Value.builtin "str.join") [Value.str _ _, Value.ref _]) _ _ _); k_dflt (refine join_listC (by is_list) (by repeat constructor) (by decide) (by (simp only [List.map_cons, List.map_nil, List.sum_cons, List.sum_nil, List.length_cons, List.length_nil]; omega)) ?_); intro zqtp zqkp))
  k_with "getMethod type:Exception" => ((k_here; refine' method_type ?F ?X ?m (by decide +kernel) ?e ?h ?_; (case F => k_asm); (case X => k_asm); (case m => exact meta_Exception); (case e => k_dflt k_is); (case h => k_handed)))
  k_with "compareOp IsNot" => ((k_here; k_dflt (refine isNot_none (by assumption) ?_)))
  k_with "call builtin:str.format" => ((k_here; k_dflt (refine' line_use ?k1 ?k2 ?k3 ?k4 ?k5 ?k6 ?k7 ?_; (case k1 => assumption); (case k2 => k_asm); (case k3 => k_asm); (case k4 => exact rfl); (case k5 => exact rfl); (case k6 => exact Nat.le_of_ble_eq_true rfl); (case k7 => exact Nat.le_of_ble_eq_true rfl); k_whole; intro zqhp zqup zqtkp zqFp zqNp)))
  k_with "call builtin:str.format" => ((k_here; (with_reducible show wpAny _ _ (call (Value.builtin "str.format") [Value.str _ _, _, _, _, _]) _ _ _); k_dflt (refine' fmt_use ?k1 ?k2 ?k3 ?k4 ?k5 ?_; (case k1 => k_asm); (case k2 => k_asm); (case k3 => exact ⟨rfl, rfl, Nat.le_of_ble_eq_true rfl, Nat.le_of_ble_eq_true rfl⟩); (case k4 => exact args_5 _ _ _ _ _); (case k5 => walk_at "mine fmt")); k_whole; intro zqhp zqup zqtkp zqFp zqNp))
  k_with "pyReprObj" => ((k_here; k_dflt (refine' reprObj_use ?k1 ?k2 ?k3 ?k4 ?k5 ?k6 ?k7 ?_; (case k1 => assumption); (case k2 => k_asm); (case k3 => k_asm); (case k4 => exact rfl); (case k5 => exact rfl); (case k6 => exact Nat.le_of_ble_eq_true rfl); (case k7 => exact Nat.le_of_ble_eq_true rfl); k_whole; intro zqhp zqup zqtkp zqFp zqNp)))
  trivial
theorem haltw_ {P : Prop} (h : Halt P) : P := h
theorem layW07s3 : True := by
  k_with "call ref" => ((refine haltw_ ?_))
  k_with "call builtin:isinstance" => ((k_here; refine haltw_ ?_))
  k_with "call builtin:str.join" => ((refine haltw_ ?_))
  k_with "CompSrc" => ((with_reducible refine haltw_ ?_))
  k_with "subscriptTail" => ((k_here; refine haltw_ ?_))
  k_with "eval ListComp" => ((k_here; k_dflt (refine LCg.ListComp_U (F₀ := by k_asm) (by with_unfolding_all rfl) (by decide) (by rfl) (by decide) (by rfl) ?_)))
  trivial
theorem wr7_str : ∀ {p : Program} {loose : List Str} {mean : ExcName → Option Value} {mg mb : Str → Option Value} (w : World) (s : Shared) (t : Tok)
    (Q E : Value → Shared → Prop) (KX : (hz.heap_193 w.params).In s.heap) (T : Top p loose mean mg mb s.heap)
    (hQ : ∀ h' tk (u : Tok), Grow s.heap h' → Q (.str (PyData.str its7).shown u) { s with heap := h', toks := tk }),
    wpAny (model PySem.Challenge.rw_dm0028_07.prog w) (AD 650 2400) (call (.ref 196) [.str its7 t]) Q E s := by
  w_top off
  k_fill
  intro p loose mean mg mb w s t Q E KX T hQ
  obtain ⟨hh, g, dr, tk, os⟩ := s
  dsimp only at KX T  hQ
  w_strict (
  refine wpAny_call ?_
  k_dflt (refine' enter_new (h₀ := hh) (binds := [("name", .str its7 t)]) (news := []) ?k1 ?k2 KX T.nolimit ?k9 ?k5 ?k6 ?k7 ?k8 ?kB ?c2 ?c3 ?c4 ?c5 ?_; (case k5 => k_is); (case k6 => k_is); (case k7 => exact Nat.le_of_ble_eq_true rfl); (case k8 => first | exact BindsTo.of_eq rfl | exact binds_K KX rfl (by k_is) rfl rfl rfl); (case c5 => decide); (case kB => exact locs rfl); (case c2 => exact rfl); (case c3 => exact rfl); (case c4 => exact rfl); (case k1 => exact fun _ _ e => e); (case k2 => exact Nat.le_refl _); (case k9 => exact List.forall_mem_nil _))
  intro L' h' tk' F' N' l1
  walk_at "mine texts"
  rw [show (PyData.str its7).shown = Str.ofString "\"" ++ its7 ++ Str.ofString "\"" from by decide +kernel] at hQ
  k_steps
  unfold Halt
  refine kia_one (K := hz.heap_193 w.params) kitx_str (Frag.In.keeps KX (Fr.keep (by k_asm))) trivial (by kernel_rfl : kitOne _ (.type "str") (.type "str") = some true) (by intro q; cases q) ?_
  intro tk1
  dsimp only
  k_steps
  exact hQ _ _ _ (Fr.keep (by k_asm)))
end
section
theorem layW07l1 : True := by
  k_with_none
  k_with "ne" => (with_reducible (first | exact ns1 | exact ns2 | exact qlt (by assumption) | exact qgt (by assumption) | exact qne (by assumption) | exact qen (by assumption) | exact rlt (by assumption) | exact rgt (by assumption) | exact rne (by assumption) | exact ren (by assumption) | exact qlt (And.right (by assumption)) | exact qgt (And.right (by assumption)) | exact qne (And.right (by assumption)) | exact qen (And.right (by assumption)) | exact rlt (And.right (by assumption)) | exact rgt (And.right (by assumption)) | exact rne (And.right (by assumption)) | exact ren (And.right (by assumption)) | exact qlt (And.right (And.right (by assumption))) | exact qgt (And.right (And.right (by assumption))) | exact qne (And.right (And.right (by assumption))) | exact qen (And.right (And.right (by assumption))) | exact rlt (And.right (And.right (by assumption))) | exact rgt (And.right (And.right (by assumption))) | exact rne (And.right (And.right (by assumption))) | exact ren (And.right (And.right (by assumption))) | exact qlt (And.right (And.right (And.right (by assumption)))) | exact qgt (And.right (And.right (And.right (by assumption)))) | exact qne (And.right (And.right (And.right (by assumption)))) | exact qen (And.right (And.right (And.right (by assumption)))) | exact rlt (And.right (And.right (And.right (by assumption)))) | exact rgt (And.right (And.right (And.right (by assumption)))) | exact rne (And.right (And.right (And.right (by assumption)))) | exact ren (And.right (And.right (And.right (by assumption)))) | exact qlt (And.right (And.right (And.right (And.right (by assumption))))) | exact qgt (And.right (And.right (And.right (And.right (by assumption))))) | exact qne (And.right (And.right (And.right (And.right (by assumption))))) | exact qen (And.right (And.right (And.right (And.right (by assumption))))) | exact rlt (And.right (And.right (And.right (And.right (by assumption))))) | exact rgt (And.right (And.right (And.right (And.right (by assumption))))) | exact rne (And.right (And.right (And.right (And.right (by assumption))))) | exact ren (And.right (And.right (And.right (And.right (by assumption))))) | exact qlt (And.right (And.right (And.right (And.right (And.right (by assumption)))))) | exact qgt (And.right (And.right (And.right (And.right (And.right (by assumption)))))) | exact qne (And.right (And.right (And.right (And.right (And.right (by assumption)))))) | exact qen (And.right (And.right (And.right (And.right (And.right (by assumption)))))) | exact rlt (And.right (And.right (And.right (And.right (And.right (by assumption)))))) | exact rgt (And.right (And.right (And.right (And.right (And.right (by assumption)))))) | exact rne (And.right (And.right (And.right (And.right (And.right (by assumption)))))) | exact ren (And.right (And.right (And.right (And.right (And.right (by assumption)))))) | exact qlt (And.right (And.right (And.right (And.right (And.right (And.right (by assumption))))))) | exact qgt (And.right (And.right (And.right (And.right (And.right (And.right (by assumption))))))) | exact qne (And.right (And.right (And.right (And.right (And.right (And.right (by assumption))))))) | exact qen (And.right (And.right (And.right (And.right (And.right (And.right (by assumption))))))) | exact rlt (And.right (And.right (And.right (And.right (And.right (And.right (by assumption))))))) | exact rgt (And.right (And.right (And.right (And.right (And.right (And.right (by assumption))))))) | exact rne (And.right (And.right (And.right (And.right (And.right (And.right (by assumption))))))) | exact ren (And.right (And.right (And.right (And.right (And.right (And.right (by assumption))))))) | exact qlt (And.right (And.right (And.right (And.right (And.right (And.right (And.right (by assumption)))))))) | exact qgt (And.right (And.right (And.right (And.right (And.right (And.right (And.right (by assumption)))))))) | exact qne (And.right (And.right (And.right (And.right (And.right (And.right (And.right (by assumption)))))))) | exact qen (And.right (And.right (And.right (And.right (And.right (And.right (And.right (by assumption)))))))) | exact rlt (And.right (And.right (And.right (And.right (And.right (And.right (And.right (by assumption)))))))) | exact rgt (And.right (And.right (And.right (And.right (And.right (And.right (And.right (by assumption)))))))) | exact rne (And.right (And.right (And.right (And.right (And.right (And.right (And.right (by assumption)))))))) | exact ren (And.right (And.right (And.right (And.right (And.right (And.right (And.right (by assumption)))))))) | exact qlt (And.right (And.right (And.right (And.right (And.right (And.right (And.right (And.right (by assumption))))))))) | exact qgt (And.right (And.right (And.right (And.right (And.right (And.right (And.right (And.right (by assumption))))))))) | exact qne (And.right (And.right (And.right (And.right (And.right (And.right (And.right (And.right (by assumption))))))))) | exact qen (And.right (And.right (And.right (And.right (And.right (And.right (And.right (And.right (by assumption))))))))) | exact rlt (And.right (And.right (And.right (And.right (And.right (And.right (And.right (And.right (by assumption))))))))) | exact rgt (And.right (And.right (And.right (And.right (And.right (And.right (And.right (And.right (by assumption))))))))) | exact rne (And.right (And.right (And.right (And.right (And.right (And.right (And.right (And.right (by assumption))))))))) | exact ren (And.right (And.right (And.right (And.right (And.right (And.right (And.right (And.right (by assumption))))))))) | exact qlt (And.right (And.right (And.right (And.right (And.right (And.right (And.right (And.right (And.right (by assumption)))))))))) | exact qgt (And.right (And.right (And.right (And.right (And.right (And.right (And.right (And.right (And.right (by assumption)))))))))) | exact qne (And.right (And.right (And.right (And.right (And.right (And.right (And.right (And.right (And.right (by assumption)))))))))) | exact qen (And.right (And.right (And.right (And.right (And.right (And.right (And.right (And.right (And.right (by assumption)))))))))) | exact rlt (And.right (And.right (And.right (And.right (And.right (And.right (And.right (And.right (And.right (by assumption)))))))))) | exact rgt (And.right (And.right (And.right (And.right (And.right (And.right (And.right (And.right (And.right (by assumption)))))))))) | exact rne (And.right (And.right (And.right (And.right (And.right (And.right (And.right (And.right (And.right (by assumption)))))))))) | exact ren (And.right (And.right (And.right (And.right (And.right (And.right (And.right (And.right (And.right (by assumption)))))))))) | exact qlt (And.right (And.right (And.right (And.right (And.right (And.right (And.right (And.right (And.right (And.right (by assumption))))))))))) | exact qgt (And.right (And.right (And.right (And.right (And.right (And.right (And.right (And.right (And.right (And.right (by assumption))))))))))) | exact qne (And.right (And.right (And.right (And.right (And.right (And.right (And.right (And.right (And.right (And.right (by assumption))))))))))) | exact qen (And.right (And.right (And.right (And.right (And.right (And.right (And.right (And.right (And.right (And.right (by assumption))))))))))) | exact rlt (And.right (And.right (And.right (And.right (And.right (And.right (And.right (And.right (And.right (And.right (by assumption))))))))))) | exact rgt (And.right (And.right (And.right (And.right (And.right (And.right (And.right (And.right (And.right (And.right (by assumption))))))))))) | exact rne (And.right (And.right (And.right (And.right (And.right (And.right (And.right (And.right (And.right (And.right (by assumption))))))))))) | exact ren (And.right (And.right (And.right (And.right (And.right (And.right (And.right (And.right (And.right (And.right (by assumption))))))))))) | exact qlt (And.right (And.right (And.right (And.right (And.right (And.right (And.right (And.right (And.right (And.right (And.right (by assumption)))))))))))) | exact qgt (And.right (And.right (And.right (And.right (And.right (And.right (And.right (And.right (And.right (And.right (And.right (by assumption)))))))))))) | exact qne (And.right (And.right (And.right (And.right (And.right (And.right (And.right (And.right (And.right (And.right (And.right (by assumption)))))))))))) | exact qen (And.right (And.right (And.right (And.right (And.right (And.right (And.right (And.right (And.right (And.right (And.right (by assumption)))))))))))) | exact rlt (And.right (And.right (And.right (And.right (And.right (And.right (And.right (And.right (And.right (And.right (And.right (by assumption)))))))))))) | exact rgt (And.right (And.right (And.right (And.right (And.right (And.right (And.right (And.right (And.right (And.right (And.right (by assumption)))))))))))) | exact rne (And.right (And.right (And.right (And.right (And.right (And.right (And.right (And.right (And.right (And.right (And.right (by assumption)))))))))))) | exact ren (And.right (And.right (And.right (And.right (And.right (And.right (And.right (And.right (And.right (And.right (And.right (by assumption)))))))))))) | exact qlt (And.right (And.right (And.right (And.right (And.right (And.right (And.right (And.right (And.right (And.right (And.right (And.right (by assumption))))))))))))) | exact qgt (And.right (And.right (And.right (And.right (And.right (And.right (And.right (And.right (And.right (And.right (And.right (And.right (by assumption))))))))))))) | exact qne (And.right (And.right (And.right (And.right (And.right (And.right (And.right (And.right (And.right (And.right (And.right (And.right (by assumption))))))))))))) | exact qen (And.right (And.right (And.right (And.right (And.right (And.right (And.right (And.right (And.right (And.right (And.right (And.right (by assumption))))))))))))) | exact rlt (And.right (And.right (And.right (And.right (And.right (And.right (And.right (And.right (And.right (And.right (And.right (And.right (by assumption))))))))))))) | exact rgt (And.right (And.right (And.right (And.right (And.right (And.right (And.right (And.right (And.right (And.right (And.right (And.right (by assumption))))))))))))) | exact rne (And.right (And.right (And.right (And.right (And.right (And.right (And.right (And.right (And.right (And.right (And.right (And.right (by assumption))))))))))))) | exact ren (And.right (And.right (And.right (And.right (And.right (And.right (And.right (And.right (And.right (And.right (And.right (And.right (by assumption))))))))))))) | exact qlt (And.right (And.right (And.right (And.right (And.right (And.right (And.right (And.right (And.right (And.right (And.right (And.right (And.right (by assumption)))))))))))))) | exact qgt (And.right (And.right (And.right (And.right (And.right (And.right (And.right (And.right (And.right (And.right (And.right (And.right (And.right (by assumption)))))))))))))) | exact qne (And.right (And.right (And.right (And.right (And.right (And.right (And.right (And.right (And.right (And.right (And.right (And.right (And.right (by assumption)))))))))))))) | exact qen (And.right (And.right (And.right (And.right (And.right (And.right (And.right (And.right (And.right (And.right (And.right (And.right (And.right (by assumption)))))))))))))) | exact rlt (And.right (And.right (And.right (And.right (And.right (And.right (And.right (And.right (And.right (And.right (And.right (And.right (And.right (by assumption)))))))))))))) | exact rgt (And.right (And.right (And.right (And.right (And.right (And.right (And.right (And.right (And.right (And.right (And.right (And.right (And.right (by assumption)))))))))))))) | exact rne (And.right (And.right (And.right (And.right (And.right (And.right (And.right (And.right (And.right (And.right (And.right (And.right (And.right (by assumption)))))))))))))) | exact ren (And.right (And.right (And.right (And.right (And.right (And.right (And.right (And.right (And.right (And.right (And.right (And.right (And.right (by assumption)))))))))))))) | exact qlt (And.right (And.right (And.right (And.right (And.right (And.right (And.right (And.right (And.right (And.right (And.right (And.right (And.right (And.right (by assumption))))))))))))))) | exact qgt (And.right (And.right (And.right (And.right (And.right (And.right (And.right (And.right (And.right (And.right (And.right (And.right (And.right (And.right (by assumption))))))))))))))) | exact qne (And.right (And.right (And.right (And.right (And.right (And.right (And.right (And.right (And.right (And.right (And.right (And.right (And.right (And.right (by assumption))))))))))))))) | exact qen (And.right (And.right (And.right (And.right (And.right (And.right (And.right (And.right (And.right (And.right (And.right (And.right (And.right (And.right (by assumption))))))))))))))) | exact rlt (And.right (And.right (And.right (And.right (And.right (And.right (And.right (And.right (And.right (And.right (And.right (And.right (And.right (And.right (by assumption))))))))))))))) | exact rgt (And.right (And.right (And.right (And.right (And.right (And.right (And.right (And.right (And.right (And.right (And.right (And.right (And.right (And.right (by assumption))))))))))))))) | exact rne (And.right (And.right (And.right (And.right (And.right (And.right (And.right (And.right (And.right (And.right (And.right (And.right (And.right (And.right (by assumption))))))))))))))) | exact ren (And.right (And.right (And.right (And.right (And.right (And.right (And.right (And.right (And.right (And.right (And.right (And.right (And.right (And.right (by assumption))))))))))))))) | exact qlt (And.right (And.right (And.right (And.right (And.right (And.right (And.right (And.right (And.right (And.right (And.right (And.right (And.right (And.right (And.right (by assumption)))))))))))))))) | exact qgt (And.right (And.right (And.right (And.right (And.right (And.right (And.right (And.right (And.right (And.right (And.right (And.right (And.right (And.right (And.right (by assumption)))))))))))))))) | exact qne (And.right (And.right (And.right (And.right (And.right (And.right (And.right (And.right (And.right (And.right (And.right (And.right (And.right (And.right (And.right (by assumption)))))))))))))))) | exact qen (And.right (And.right (And.right (And.right (And.right (And.right (And.right (And.right (And.right (And.right (And.right (And.right (And.right (And.right (And.right (by assumption)))))))))))))))) | exact rlt (And.right (And.right (And.right (And.right (And.right (And.right (And.right (And.right (And.right (And.right (And.right (And.right (And.right (And.right (And.right (by assumption)))))))))))))))) | exact rgt (And.right (And.right (And.right (And.right (And.right (And.right (And.right (And.right (And.right (And.right (And.right (And.right (And.right (And.right (And.right (by assumption)))))))))))))))) | exact rne (And.right (And.right (And.right (And.right (And.right (And.right (And.right (And.right (And.right (And.right (And.right (And.right (And.right (And.right (And.right (by assumption)))))))))))))))) | exact ren (And.right (And.right (And.right (And.right (And.right (And.right (And.right (And.right (And.right (And.right (And.right (And.right (And.right (And.right (And.right (by assumption))))))))))))))))))
  trivial
theorem layW07l2 : True := by
  k_with "mine texts" => ((try dsimp only [← sx0, ← sx1, ← sx2, ← sx3, ← sx4, ← sx5, ← sx6, ← sx7, ← sx8, ← sx9, ← sx10, ← sx11, ← sx12, ← sx13, ← sx14, ← sx15, ← sx16, ← sx17, ← sx18, ← sx19, ← sx20, ← sx21, ← sx22, ← sx23, ← sx24, ← sx25, ← sx26, ← sx27, ← sx28, ← sx29, ← sx30, ← sx31, ← sx32, ← sx33, ← sx34, ← sx35, ← sx36, ← sx37, ← sx38, ← sx39, ← sx40, ← sx41, ← sx42, ← sx43, ← sx44, ← sx45, ← sx46, ← sx47, ← sx48, ← sx49, ← sx50, ← sx51, ← sx52, ← sx53, ← sx54, ← sx55, ← sx56, ← sx57, ← sx58, ← sx59, ← sx60, ← sx61, ← sx62, ← sx63, ← sx64, ← sx65, ← sx66, ← sx67, ← sx68, ← sx69, ← sx70, ← sx71, ← sx72, ← sx73, ← sx74, ← sx75, ← sx76, ← sx77, ← sx78, ← sx79, ← sx80, ← sx81, ← sx82, ← sx83, ← sx84, ← sx85, ← sx86, ← sx87, ← sx88, ← sx89, ← sx90, ← sx91, ← sx92, ← sx93, ← sx94, ← sx95, ← sx96, ← sx97, ← sx98, ← sx99, ← sx100, ← sx101, ← sx102, ← sx103, ← sx104, ← sx105, ← sx106, ← sx107, ← sx108, ← sx109]))
  k_with "mine drop" => (first | (refine' Drop.head ?a; (case a => k_all)) | (refine' Drop.tail ?a ?b; (case a => k_ne); (case b => walk_at "mine drop")))
  k_with "setAttr ref" => ((k_here; k_dflt (first | (refine' exc_set0 ?k1 ?k2 ?k3 ?k4 ?k5 ?k6 ?k7 ?k8 ?k9 ?_; (case k1 => k_asm); (case k2 => k_asm); (case k3 => k_asm); (case k4 => k_mem); (case k5 => k_is); (case k6 => kernel_rfl); (case k7 => k_is); (case k8 => k_is); (case k9 => intro zqd; k_upd); k_whole; intro zqdp zqhp zqFp zqNp zql1; (try k_lt zql1)) | (refine' exc_set_args ?k1 ?k2 ?k3 ?k4 ?k5 ?k6 ?k7 ?k8 ?k9 ?k10 ?_; (case k1 => k_asm); (case k2 => k_asm); (case k3 => k_asm); (case k4 => first | (refine' InstAt.of_exc ?N ?h1 ?h2; (case N => k_asm); (case h1 => k_mem); (case h2 => k_mem)) | (refine' InstAt.of_exc0 ?N ?h1; (case N => k_asm); (case h1 => k_mem))); (case k5 => exact isTup_of (by k_asm) (by k_mem)); (case k6 => k_is); (case k7 => kernel_rfl); (case k8 => k_is); (case k9 => k_is); (case k10 => k_upd); k_whole; intro zqhp zqFp zqNp) | (refine' exc_set ?k1 ?k2 ?k3 ?k4 ?k5 ?k6 ?k7 ?k8 ?k9 ?k10 ?k11 ?k12 ?_; (case k1 => k_asm); (case k2 => k_asm); (case k3 => k_asm); (case k4 => first | (refine' InstAt.of_exc ?N ?h1 ?h2; (case N => k_asm); (case h1 => k_mem); (case h2 => k_mem)) | (refine' InstAt.of_exc0 ?N ?h1; (case N => k_asm); (case h1 => k_mem))); (case k5 => k_is); (case k6 => kernel_rfl); (case k7 => k_is); (case k8 => k_is); (case k9 => k_get); (case k10 => k_put); (case k11 => k_upd); (case k12 => exact Nat.le_of_ble_eq_true rfl); k_whole; intro zqhp zqFp zqNp))))
  k_with "call builtin:Exception.__init__" => ((k_here; k_dflt (refine' exc_init_call ?k1 ?k2 ?k3 ?k4 ?k5 ?k6 ?_; (case k1 => k_asm); (case k2 => k_asm); (case k3 => k_asm); (case k4 => first | (refine' InstAt.of_exc ?N ?h1 ?h2; (case N => k_asm); (case h1 => k_mem); (case h2 => k_mem)) | (refine' InstAt.of_exc0 ?N ?h1; (case N => k_asm); (case h1 => k_mem))); (case k5 => k_is); (case k6 => intro zqt; k_upd); k_whole; intro zqtp zqhp zqFp zqNp zql1; (try k_lt zql1))))
  k_with "call builtin:repr" => ((k_here; k_dflt (refine' repr_use ?k1 ?k2 ?k3 ?k4 ?k5 ?k6 ?k7 ?_; (case k1 => assumption); (case k2 => k_asm); (case k3 => k_asm); (case k4 => exact rfl); (case k5 => exact rfl); (case k6 => exact Nat.le_of_ble_eq_true rfl); (case k7 => exact Nat.le_of_ble_eq_true rfl); k_whole; intro zqhp zqup zqtkp zqFp zqNp)))
  k_with "BackIn" => ((k_dflt (refine' back_ ?k1 ?k2 ?k3 ?_; (case k1 => k_asm); (case k2 => k_asm); (case k3 => walk_at "mine drop"); k_whole; intro zqFp zqNp; (try dsimp only))))
  k_with "call ref" => ((k_here; k_dflt (refine wpAny_call ?_; refine' enter_in ?k1 ?k2 ?k3 ?k4 ?k5 ?k6 ?k7 ?k8 ?kB ?c2 ?c3 ?c4 ?c5 ?_; (case k1 => k_asm); (case k2 => k_asm); (case k3 => k_asm); (case k4 => exact Top.nolimit (by assumption)); (case k5 => k_is); (case k6 => k_is); (case k7 => exact Nat.le_of_ble_eq_true rfl); (case k8 => first | ((with_reducible show BindsTo _ _ ⟨[_], []⟩ _); first | exact BindsTo.of_eq (binds := [(_, _)]) rfl | exact binds_K (binds := [(_, _)]) (by k_in) rfl (by k_is) rfl rfl rfl) | ((with_reducible show BindsTo _ _ ⟨[_, _], []⟩ _); first | exact BindsTo.of_eq (binds := [(_, _), (_, _)]) rfl | exact binds_K (binds := [(_, _), (_, _)]) (by k_in) rfl (by k_is) rfl rfl rfl) | ((with_reducible show BindsTo _ _ ⟨[_, _, _], []⟩ _); first | exact BindsTo.of_eq (binds := [(_, _), (_, _), (_, _)]) rfl | exact binds_K (binds := [(_, _), (_, _), (_, _)]) (by k_in) rfl (by k_is) rfl rfl rfl) | ((with_reducible show BindsTo _ _ ⟨[_, _, _, _], []⟩ _); first | exact BindsTo.of_eq (binds := [(_, _), (_, _), (_, _), (_, _)]) rfl | exact binds_K (binds := [(_, _), (_, _), (_, _), (_, _)]) (by k_in) rfl (by k_is) rfl rfl rfl) | ((with_reducible show BindsTo _ _ ⟨[_, _, _, _, _], []⟩ _); first | exact BindsTo.of_eq (binds := [(_, _), (_, _), (_, _), (_, _), (_, _)]) rfl | exact binds_K (binds := [(_, _), (_, _), (_, _), (_, _), (_, _)]) (by k_in) rfl (by k_is) rfl rfl rfl)); (case c5 => decide); (case kB => exact locs rfl); (case c2 => exact rfl); (case c3 => exact rfl); (case c4 => exact rfl); k_whole; intro zqoLp zqLp zqhp zqtkp zqFp zqNp zql1 zqn1; (try k_lt zql1); (try (replace zqn1 := allNe_of zqn1; simp only [AllNe, and_true] at zqn1)); (try dsimp only); walk_at "mine texts")))
  k_with "call builtin:str.join" => ((k_here; (with_reducible show wpAny _ _ (call (Value.builtin "str.join") [Value.str _ _, Value.ref _]) _ _ _); k_dflt (refine join_listC (by is_list) (by repeat constructor) (by decide) (by (simp only [List.map_cons, List.map_nil, List.sum_cons, List.sum_nil, List.length_cons, List.length_nil]; omega)) ?_); intro zqtp zqkp))
  k_with "getMethod type:Exception" => ((k_here; refine' method_type ?F ?X ?m (by decide +kernel) ?e ?h ?_; (case F => k_asm); (case X => k_asm); (case m => exact meta_Exception); (case e => k_dflt k_is); (case h => k_handed)))
  k_with "compareOp IsNot" => ((k_here; k_dflt (refine isNot_none (by assumption) ?_)))
  k_with "call builtin:str.format" => ((k_here; k_dflt (refine' line_use ?k1 ?k2 ?k3 ?k4 ?k5 ?k6 ?k7 ?_; (case k1 => assumption); (case k2 => k_asm); (case k3 => k_asm); (case k4 => exact rfl); (case k5 => exact rfl); (case k6 => exact Nat.le_of_ble_eq_true rfl); (case k7 => exact Nat.le_of_ble_eq_true rfl); k_whole; intro zqhp zqup zqtkp zqFp zqNp)))
  k_with "call builtin:str.format" => ((k_here; (with_reducible show wpAny _ _ (call (Value.builtin "str.format") [Value.str _ _, _, _, _, _]) _ _ _); k_dflt (refine' fmt_use ?k1 ?k2 ?k3 ?k4 ?k5 ?_; (case k1 => k_asm); (case k2 => k_asm); (case k3 => exact ⟨rfl, rfl, Nat.le_of_ble_eq_true rfl, Nat.le_of_ble_eq_true rfl⟩); (case k4 => exact args_5 _ _ _ _ _); (case k5 => walk_at "mine fmt")); k_whole; intro zqhp zqup zqtkp zqFp zqNp))
  k_with "pyReprObj" => ((k_here; k_dflt (refine' reprObj_use ?k1 ?k2 ?k3 ?k4 ?k5 ?k6 ?k7 ?_; (case k1 => assumption); (case k2 => k_asm); (case k3 => k_asm); (case k4 => exact rfl); (case k5 => exact rfl); (case k6 => exact Nat.le_of_ble_eq_true rfl); (case k7 => exact Nat.le_of_ble_eq_true rfl); k_whole; intro zqhp zqup zqtkp zqFp zqNp)))
  trivial
theorem layW07l3 : True := by
  k_with "call ref" => ((refine haltw_ ?_))
  k_with "call builtin:isinstance" => ((k_here; refine haltw_ ?_))
  k_with "call builtin:str.join" => ((refine haltw_ ?_))
  k_with "CompSrc" => ((with_reducible refine haltw_ ?_))
  k_with "subscriptTail" => ((k_here; refine haltw_ ?_))
  k_with "eval ListComp" => ((k_here; k_dflt (refine LCg.ListComp_U (F₀ := by k_asm) (by with_unfolding_all rfl) (by decide) (by rfl) (by decide) (by rfl) ?_)))
  trivial
theorem wr7_list : ∀ {p : Program} {loose : List Str} {mean : ExcName → Option Value} {mg mb : Str → Option Value} (w : World) (s : Shared) (a : Addr) (vs : List Value) (ns : List Int) (n : Nat) (ha : s.heap.get? a = some (listOf vs.toArray n)) (hi : IntsAre vs ns) (hf : Few ns)
    (Q E : Value → Shared → Prop) (KX : (hz.heap_193 w.params).In s.heap) (T : Top p loose mean mg mb s.heap)
    (hQ : ∀ h' tk (u : Tok), Grow s.heap h' → Q (.str (PyData.list (ns.map .int)).shown u) { s with heap := h', toks := tk }),
    wpAny (model PySem.Challenge.rw_dm0028_07.prog w) (AD 650 2400) (call (.ref 196) [.ref a]) Q E s := by
  w_top off
  k_fill
  intro p loose mean mg mb w s a vs ns n ha hi hf Q E KX T hQ
  obtain ⟨hh, g, dr, tk, os⟩ := s
  dsimp only at KX T ha hQ
  w_strict (
  refine wpAny_call ?_
  k_dflt (refine' enter_new (h₀ := hh) (binds := [("name", .ref a)]) (news := []) ?k1 ?k2 KX T.nolimit ?k9 ?k5 ?k6 ?k7 ?k8 ?kB ?c2 ?c3 ?c4 ?c5 ?_; (case k5 => k_is); (case k6 => k_is); (case k7 => exact Nat.le_of_ble_eq_true rfl); (case k8 => first | exact BindsTo.of_eq rfl | exact binds_K KX rfl (by k_is) rfl rfl rfl); (case c5 => decide); (case kB => exact locs rfl); (case c2 => exact rfl); (case c3 => exact rfl); (case c4 => exact rfl); (case k1 => exact fun _ _ e => e); (case k2 => exact Nat.le_refl _); (case k9 => exact List.forall_mem_nil _))
  intro L' h' tk' F' N' l1
  walk_at "mine texts"
  k_steps
  unfold Halt
  refine kia_one (K := hz.heap_193 w.params) kitx_list (Frag.In.keeps KX (Fr.keep (by k_asm))) ⟨_, Fr.keep (by k_asm) _ _ ha, rfl⟩ (by kernel_rfl : kitOne _ (.type "list") (.type "str") = some false) (by intro q; cases q) ?_
  intro tk1
  dsimp only
  k_steps
  unfold Halt
  refine kia_one (K := hz.heap_193 w.params) kitx_list (Frag.In.keeps KX (Fr.keep (by k_asm))) ⟨_, Fr.keep (by k_asm) _ _ ha, rfl⟩ (by kernel_rfl : kitOne _ (.type "list") (.type "tuple") = some false) (by intro q; cases q) ?_
  intro tk2
  dsimp only
  k_steps
  unfold Halt
  (with_reducible rename Fr _ _ _ _ => F3)
  (with_reducible rename News _ _ _ _ => N3)
  refine LCg.CompSrc.base (by rfl) F3 N3 ⟨_, ha, rfl, _, rfl⟩ (by rw [sizeLine_eq, List.size_toArray]; have := hi.length; have := hf.1; omega) ?_
  intro g4
  have hvz : vs.toArray.size = vs.length := List.size_toArray ..
  have hlen := hi.length
  refine comp_rec2 (fun i ys => StrsAre ys ((PyData.shownAll (ns.map .int)).take i)) .nil (.inl ⟨_, ha, rfl, _, rfl⟩) ?zel ?zfin
  case zel =>
    intro i v ys I oI C oC D m2 hh' tkk E' hi9 hj hv hC' hx' F' N' off' ne' Qc hQc
    clear F3 N3
    have hvi : vs[i]? = some v := by simpa using hv
    obtain ⟨x, xt, rfl, hx9⟩ := ints_at hi hvi
    have hxf : (if x < 0 then 0 - x else x) < 1000 := by have := hf.2 x (List.mem_of_getElem? hx9); split <;> omega
    have hts := all_at (ds := ns.map .int) (i := i) (d := .int x) (by rw [List.getElem?_map, hx9]; rfl)
    k_steps
    (with_reducible rename Fr _ _ _ _ => F6)
    (with_reducible rename News _ _ _ _ => N6)
    refine hQc _ _ _ ?_ F6 N6
    rw [List.take_add_one, hts, Option.toList_some]
    exact strs_snoc2 hj
  case zfin =>
    intro ys hj
    have hsl : (PyData.shownAll (ns.map .int)).length = ns.length := by rw [all_len, List.length_map]
    have hsh : ∀ t ∈ PyData.shownAll (ns.map .int), t.length ≤ 5000 := few_short hf
    rw [hvz, hlen, ← hsl, List.take_length] at hj
    have hn5 := hf.1
    intro D5 h5 tk5 F5 N5 off5
    clear F3 N3
    dsimp only
    k_steps
    unfold Halt
    (with_reducible rename Fr _ _ _ _ => F6)
    (with_reducible rename News _ _ _ _ => N6)
    have hsum := sum_small hsh
    rw [hsl] at hsum
    refine join_listW (News.isList N6 (.head _)) (by simpa using hj) (by decide) (by rw [hsl]; omega) ?_
    intro t7 tk7
    dsimp only
    have hjl := join_small hsh (by rw [hsl]; omega)
    generalize hJ : Txt.join (Str.ofString ", ") (PyData.shownAll (ns.map .int)) = J at hjl ⊢
    k_steps
    subst hJ
    rw [list_text]
    exact hQ _ _ _ (Fr.keep (by k_asm)))
end
section
theorem layW07t1 : True := by
  k_with_none
  k_with "ne" => (with_reducible (first | exact ns1 | exact ns2 | exact qlt (by assumption) | exact qgt (by assumption) | exact qne (by assumption) | exact qen (by assumption) | exact rlt (by assumption) | exact rgt (by assumption) | exact rne (by assumption) | exact ren (by assumption) | exact qlt (And.right (by assumption)) | exact qgt (And.right (by assumption)) | exact qne (And.right (by assumption)) | exact qen (And.right (by assumption)) | exact rlt (And.right (by assumption)) | exact rgt (And.right (by assumption)) | exact rne (And.right (by assumption)) | exact ren (And.right (by assumption)) | exact qlt (And.right (And.right (by assumption))) | exact qgt (And.right (And.right (by assumption))) | exact qne (And.right (And.right (by assumption))) | exact qen (And.right (And.right (by assumption))) | exact rlt (And.right (And.right (by assumption))) | exact rgt (And.right (And.right (by assumption))) | exact rne (And.right (And.right (by assumption))) | exact ren (And.right (And.right (by assumption))) | exact qlt (And.right (And.right (And.right (by assumption)))) | exact qgt (And.right (And.right (And.right (by assumption)))) | exact qne (And.right (And.right (And.right (by assumption)))) | exact qen (And.right (And.right (And.right (by assumption)))) | exact rlt (And.right (And.right (And.right (by assumption)))) | exact rgt (And.right (And.right (And.right (by assumption)))) | exact rne (And.right (And.right (And.right (by assumption)))) | exact ren (And.right (And.right (And.right (by assumption)))) | exact qlt (And.right (And.right (And.right (And.right (by assumption))))) | exact qgt (And.right (And.right (And.right (And.right (by assumption))))) | exact qne (And.right (And.right (And.right (And.right (by assumption))))) | exact qen (And.right (And.right (And.right (And.right (by assumption))))) | exact rlt (And.right (And.right (And.right (And.right (by assumption))))) | exact rgt (And.right (And.right (And.right (And.right (by assumption))))) | exact rne (And.right (And.right (And.right (And.right (by assumption))))) | exact ren (And.right (And.right (And.right (And.right (by assumption))))) | exact qlt (And.right (And.right (And.right (And.right (And.right (by assumption)))))) | exact qgt (And.right (And.right (And.right (And.right (And.right (by assumption)))))) | exact qne (And.right (And.right (And.right (And.right (And.right (by assumption)))))) | exact qen (And.right (And.right (And.right (And.right (And.right (by assumption)))))) | exact rlt (And.right (And.right (And.right (And.right (And.right (by assumption)))))) | exact rgt (And.right (And.right (And.right (And.right (And.right (by assumption)))))) | exact rne (And.right (And.right (And.right (And.right (And.right (by assumption)))))) | exact ren (And.right (And.right (And.right (And.right (And.right (by assumption)))))) | exact qlt (And.right (And.right (And.right (And.right (And.right (And.right (by assumption))))))) | exact qgt (And.right (And.right (And.right (And.right (And.right (And.right (by assumption))))))) | exact qne (And.right (And.right (And.right (And.right (And.right (And.right (by assumption))))))) | exact qen (And.right (And.right (And.right (And.right (And.right (And.right (by assumption))))))) | exact rlt (And.right (And.right (And.right (And.right (And.right (And.right (by assumption))))))) | exact rgt (And.right (And.right (And.right (And.right (And.right (And.right (by assumption))))))) | exact rne (And.right (And.right (And.right (And.right (And.right (And.right (by assumption))))))) | exact ren (And.right (And.right (And.right (And.right (And.right (And.right (by assumption))))))) | exact qlt (And.right (And.right (And.right (And.right (And.right (And.right (And.right (by assumption)))))))) | exact qgt (And.right (And.right (And.right (And.right (And.right (And.right (And.right (by assumption)))))))) | exact qne (And.right (And.right (And.right (And.right (And.right (And.right (And.right (by assumption)))))))) | exact qen (And.right (And.right (And.right (And.right (And.right (And.right (And.right (by assumption)))))))) | exact rlt (And.right (And.right (And.right (And.right (And.right (And.right (And.right (by assumption)))))))) | exact rgt (And.right (And.right (And.right (And.right (And.right (And.right (And.right (by assumption)))))))) | exact rne (And.right (And.right (And.right (And.right (And.right (And.right (And.right (by assumption)))))))) | exact ren (And.right (And.right (And.right (And.right (And.right (And.right (And.right (by assumption)))))))) | exact qlt (And.right (And.right (And.right (And.right (And.right (And.right (And.right (And.right (by assumption))))))))) | exact qgt (And.right (And.right (And.right (And.right (And.right (And.right (And.right (And.right (by assumption))))))))) | exact qne (And.right (And.right (And.right (And.right (And.right (And.right (And.right (And.right (by assumption))))))))) | exact qen (And.right (And.right (And.right (And.right (And.right (And.right (And.right (And.right (by assumption))))))))) | exact rlt (And.right (And.right (And.right (And.right (And.right (And.right (And.right (And.right (by assumption))))))))) | exact rgt (And.right (And.right (And.right (And.right (And.right (And.right (And.right (And.right (by assumption))))))))) | exact rne (And.right (And.right (And.right (And.right (And.right (And.right (And.right (And.right (by assumption))))))))) | exact ren (And.right (And.right (And.right (And.right (And.right (And.right (And.right (And.right (by assumption))))))))) | exact qlt (And.right (And.right (And.right (And.right (And.right (And.right (And.right (And.right (And.right (by assumption)))))))))) | exact qgt (And.right (And.right (And.right (And.right (And.right (And.right (And.right (And.right (And.right (by assumption)))))))))) | exact qne (And.right (And.right (And.right (And.right (And.right (And.right (And.right (And.right (And.right (by assumption)))))))))) | exact qen (And.right (And.right (And.right (And.right (And.right (And.right (And.right (And.right (And.right (by assumption)))))))))) | exact rlt (And.right (And.right (And.right (And.right (And.right (And.right (And.right (And.right (And.right (by assumption)))))))))) | exact rgt (And.right (And.right (And.right (And.right (And.right (And.right (And.right (And.right (And.right (by assumption)))))))))) | exact rne (And.right (And.right (And.right (And.right (And.right (And.right (And.right (And.right (And.right (by assumption)))))))))) | exact ren (And.right (And.right (And.right (And.right (And.right (And.right (And.right (And.right (And.right (by assumption)))))))))) | exact qlt (And.right (And.right (And.right (And.right (And.right (And.right (And.right (And.right (And.right (And.right (by assumption))))))))))) | exact qgt (And.right (And.right (And.right (And.right (And.right (And.right (And.right (And.right (And.right (And.right (by assumption))))))))))) | exact qne (And.right (And.right (And.right (And.right (And.right (And.right (And.right (And.right (And.right (And.right (by assumption))))))))))) | exact qen (And.right (And.right (And.right (And.right (And.right (And.right (And.right (And.right (And.right (And.right (by assumption))))))))))) | exact rlt (And.right (And.right (And.right (And.right (And.right (And.right (And.right (And.right (And.right (And.right (by assumption))))))))))) | exact rgt (And.right (And.right (And.right (And.right (And.right (And.right (And.right (And.right (And.right (And.right (by assumption))))))))))) | exact rne (And.right (And.right (And.right (And.right (And.right (And.right (And.right (And.right (And.right (And.right (by assumption))))))))))) | exact ren (And.right (And.right (And.right (And.right (And.right (And.right (And.right (And.right (And.right (And.right (by assumption))))))))))) | exact qlt (And.right (And.right (And.right (And.right (And.right (And.right (And.right (And.right (And.right (And.right (And.right (by assumption)))))))))))) | exact qgt (And.right (And.right (And.right (And.right (And.right (And.right (And.right (And.right (And.right (And.right (And.right (by assumption)))))))))))) | exact qne (And.right (And.right (And.right (And.right (And.right (And.right (And.right (And.right (And.right (And.right (And.right (by assumption)))))))))))) | exact qen (And.right (And.right (And.right (And.right (And.right (And.right (And.right (And.right (And.right (And.right (And.right (by assumption)))))))))))) | exact rlt (And.right (And.right (And.right (And.right (And.right (And.right (And.right (And.right (And.right (And.right (And.right (by assumption)))))))))))) | exact rgt (And.right (And.right (And.right (And.right (And.right (And.right (And.right (And.right (And.right (And.right (And.right (by assumption)))))))))))) | exact rne (And.right (And.right (And.right (And.right (And.right (And.right (And.right (And.right (And.right (And.right (And.right (by assumption)))))))))))) | exact ren (And.right (And.right (And.right (And.right (And.right (And.right (And.right (And.right (And.right (And.right (And.right (by assumption)))))))))))) | exact qlt (And.right (And.right (And.right (And.right (And.right (And.right (And.right (And.right (And.right (And.right (And.right (And.right (by assumption))))))))))))) | exact qgt (And.right (And.right (And.right (And.right (And.right (And.right (And.right (And.right (And.right (And.right (And.right (And.right (by assumption))))))))))))) | exact qne (And.right (And.right (And.right (And.right (And.right (And.right (And.right (And.right (And.right (And.right (And.right (And.right (by assumption))))))))))))) | exact qen (And.right (And.right (And.right (And.right (And.right (And.right (And.right (And.right (And.right (And.right (And.right (And.right (by assumption))))))))))))) | exact rlt (And.right (And.right (And.right (And.right (And.right (And.right (And.right (And.right (And.right (And.right (And.right (And.right (by assumption))))))))))))) | exact rgt (And.right (And.right (And.right (And.right (And.right (And.right (And.right (And.right (And.right (And.right (And.right (And.right (by assumption))))))))))))) | exact rne (And.right (And.right (And.right (And.right (And.right (And.right (And.right (And.right (And.right (And.right (And.right (And.right (by assumption))))))))))))) | exact ren (And.right (And.right (And.right (And.right (And.right (And.right (And.right (And.right (And.right (And.right (And.right (And.right (by assumption))))))))))))) | exact qlt (And.right (And.right (And.right (And.right (And.right (And.right (And.right (And.right (And.right (And.right (And.right (And.right (And.right (by assumption)))))))))))))) | exact qgt (And.right (And.right (And.right (And.right (And.right (And.right (And.right (And.right (And.right (And.right (And.right (And.right (And.right (by assumption)))))))))))))) | exact qne (And.right (And.right (And.right (And.right (And.right (And.right (And.right (And.right (And.right (And.right (And.right (And.right (And.right (by assumption)))))))))))))) | exact qen (And.right (And.right (And.right (And.right (And.right (And.right (And.right (And.right (And.right (And.right (And.right (And.right (And.right (by assumption)))))))))))))) | exact rlt (And.right (And.right (And.right (And.right (And.right (And.right (And.right (And.right (And.right (And.right (And.right (And.right (And.right (by assumption)))))))))))))) | exact rgt (And.right (And.right (And.right (And.right (And.right (And.right (And.right (And.right (And.right (And.right (And.right (And.right (And.right (by assumption)))))))))))))) | exact rne (And.right (And.right (And.right (And.right (And.right (And.right (And.right (And.right (And.right (And.right (And.right (And.right (And.right (by assumption)))))))))))))) | exact ren (And.right (And.right (And.right (And.right (And.right (And.right (And.right (And.right (And.right (And.right (And.right (And.right (And.right (by assumption)))))))))))))) | exact qlt (And.right (And.right (And.right (And.right (And.right (And.right (And.right (And.right (And.right (And.right (And.right (And.right (And.right (And.right (by assumption))))))))))))))) | exact qgt (And.right (And.right (And.right (And.right (And.right (And.right (And.right (And.right (And.right (And.right (And.right (And.right (And.right (And.right (by assumption))))))))))))))) | exact qne (And.right (And.right (And.right (And.right (And.right (And.right (And.right (And.right (And.right (And.right (And.right (And.right (And.right (And.right (by assumption))))))))))))))) | exact qen (And.right (And.right (And.right (And.right (And.right (And.right (And.right (And.right (And.right (And.right (And.right (And.right (And.right (And.right (by assumption))))))))))))))) | exact rlt (And.right (And.right (And.right (And.right (And.right (And.right (And.right (And.right (And.right (And.right (And.right (And.right (And.right (And.right (by assumption))))))))))))))) | exact rgt (And.right (And.right (And.right (And.right (And.right (And.right (And.right (And.right (And.right (And.right (And.right (And.right (And.right (And.right (by assumption))))))))))))))) | exact rne (And.right (And.right (And.right (And.right (And.right (And.right (And.right (And.right (And.right (And.right (And.right (And.right (And.right (And.right (by assumption))))))))))))))) | exact ren (And.right (And.right (And.right (And.right (And.right (And.right (And.right (And.right (And.right (And.right (And.right (And.right (And.right (And.right (by assumption))))))))))))))) | exact qlt (And.right (And.right (And.right (And.right (And.right (And.right (And.right (And.right (And.right (And.right (And.right (And.right (And.right (And.right (And.right (by assumption)))))))))))))))) | exact qgt (And.right (And.right (And.right (And.right (And.right (And.right (And.right (And.right (And.right (And.right (And.right (And.right (And.right (And.right (And.right (by assumption)))))))))))))))) | exact qne (And.right (And.right (And.right (And.right (And.right (And.right (And.right (And.right (And.right (And.right (And.right (And.right (And.right (And.right (And.right (by assumption)))))))))))))))) | exact qen (And.right (And.right (And.right (And.right (And.right (And.right (And.right (And.right (And.right (And.right (And.right (And.right (And.right (And.right (And.right (by assumption)))))))))))))))) | exact rlt (And.right (And.right (And.right (And.right (And.right (And.right (And.right (And.right (And.right (And.right (And.right (And.right (And.right (And.right (And.right (by assumption)))))))))))))))) | exact rgt (And.right (And.right (And.right (And.right (And.right (And.right (And.right (And.right (And.right (And.right (And.right (And.right (And.right (And.right (And.right (by assumption)))))))))))))))) | exact rne (And.right (And.right (And.right (And.right (And.right (And.right (And.right (And.right (And.right (And.right (And.right (And.right (And.right (And.right (And.right (by assumption)))))))))))))))) | exact ren (And.right (And.right (And.right (And.right (And.right (And.right (And.right (And.right (And.right (And.right (And.right (And.right (And.right (And.right (And.right (by assumption))))))))))))))))))
  trivial
theorem layW07t2 : True := by
  k_with "mine texts" => ((try dsimp only [← sx0, ← sx1, ← sx2, ← sx3, ← sx4, ← sx5, ← sx6, ← sx7, ← sx8, ← sx9, ← sx10, ← sx11, ← sx12, ← sx13, ← sx14, ← sx15, ← sx16, ← sx17, ← sx18, ← sx19, ← sx20, ← sx21, ← sx22, ← sx23, ← sx24, ← sx25, ← sx26, ← sx27, ← sx28, ← sx29, ← sx30, ← sx31, ← sx32, ← sx33, ← sx34, ← sx35, ← sx36, ← sx37, ← sx38, ← sx39, ← sx40, ← sx41, ← sx42, ← sx43, ← sx44, ← sx45, ← sx46, ← sx47, ← sx48, ← sx49, ← sx50, ← sx51, ← sx52, ← sx53, ← sx54, ← sx55, ← sx56, ← sx57, ← sx58, ← sx59, ← sx60, ← sx61, ← sx62, ← sx63, ← sx64, ← sx65, ← sx66, ← sx67, ← sx68, ← sx69, ← sx70, ← sx71, ← sx72, ← sx73, ← sx74, ← sx75, ← sx76, ← sx77, ← sx78, ← sx79, ← sx80, ← sx81, ← sx82, ← sx83, ← sx84, ← sx85, ← sx86, ← sx87, ← sx88, ← sx89, ← sx90, ← sx91, ← sx92, ← sx93, ← sx94, ← sx95, ← sx96, ← sx97, ← sx98, ← sx99, ← sx100, ← sx101, ← sx102, ← sx103, ← sx104, ← sx105, ← sx106, ← sx107, ← sx108, ← sx109]))
  k_with "mine drop" => (first | (refine' Drop.head ?a; (case a => k_all)) | (refine' Drop.tail ?a ?b; (case a => k_ne); (case b => walk_at "mine drop")))
  k_with "setAttr ref" => ((k_here; k_dflt (first | (refine' exc_set0 ?k1 ?k2 ?k3 ?k4 ?k5 ?k6 ?k7 ?k8 ?k9 ?_; (case k1 => k_asm); (case k2 => k_asm); (case k3 => k_asm); (case k4 => k_mem); (case k5 => k_is); (case k6 => kernel_rfl); (case k7 => k_is); (case k8 => k_is); (case k9 => intro zqd; k_upd); k_whole; intro zqdp zqhp zqFp zqNp zql1; (try k_lt zql1)) | (refine' exc_set_args ?k1 ?k2 ?k3 ?k4 ?k5 ?k6 ?k7 ?k8 ?k9 ?k10 ?_; (case k1 => k_asm); (case k2 => k_asm); (case k3 => k_asm); (case k4 => first | (refine' InstAt.of_exc ?N ?h1 ?h2; (case N => k_asm); (case h1 => k_mem); (case h2 => k_mem)) | (refine' InstAt.of_exc0 ?N ?h1; (case N => k_asm); (case h1 => k_mem))); (case k5 => exact isTup_of (by k_asm) (by k_mem)); (case k6 => k_is); (case k7 => kernel_rfl); (case k8 => k_is); (case k9 => k_is); (case k10 => k_upd); k_whole; intro zqhp zqFp zqNp) | (refine' exc_set ?k1 ?k2 ?k3 ?k4 ?k5 ?k6 ?k7 ?k8 ?k9 ?k10 ?k11 ?k12 ?_; (case k1 => k_asm); (case k2 => k_asm); (case k3 => k_asm); (case k4 => first | (refine' InstAt.of_exc ?N ?h1 ?h2; (case N => k_asm); (case h1 => k_mem); (case h2 => k_mem)) | (refine' InstAt.of_exc0 ?N ?h1; (case N => k_asm); (case h1 => k_mem))); (case k5 => k_is); (case k6 => kernel_rfl); (case k7 => k_is); (case k8 => k_is); (case k9 => k_get); (case k10 => k_put); (case k11 => k_upd); (case k12 => exact Nat.le_of_ble_eq_true rfl); k_whole; intro zqhp zqFp zqNp))))
  k_with "call builtin:Exception.__init__" => ((k_here; k_dflt (refine' exc_init_call ?k1 ?k2 ?k3 ?k4 ?k5 ?k6 ?_; (case k1 => k_asm); (case k2 => k_asm); (case k3 => k_asm); (case k4 => first | (refine' InstAt.of_exc ?N ?h1 ?h2; (case N => k_asm); (case h1 => k_mem); (case h2 => k_mem)) | (refine' InstAt.of_exc0 ?N ?h1; (case N => k_asm); (case h1 => k_mem))); (case k5 => k_is); (case k6 => intro zqt; k_upd); k_whole; intro zqtp zqhp zqFp zqNp zql1; (try k_lt zql1))))
  k_with "call builtin:repr" => ((k_here; k_dflt (refine' repr_use ?k1 ?k2 ?k3 ?k4 ?k5 ?k6 ?k7 ?_; (case k1 => assumption); (case k2 => k_asm); (case k3 => k_asm); (case k4 => exact rfl); (case k5 => exact rfl); (case k6 => exact Nat.le_of_ble_eq_true rfl); (case k7 => exact Nat.le_of_ble_eq_true rfl); k_whole; intro zqhp zqup zqtkp zqFp zqNp)))
  k_with "BackIn" => ((k_dflt (refine' back_ ?k1 ?k2 ?k3 ?_; (case k1 => k_asm); (case k2 => k_asm); (case k3 => walk_at "mine drop"); k_whole; intro zqFp zqNp; (try dsimp only))))
  k_with "call ref" => ((k_here; k_dflt (refine wpAny_call ?_; refine' enter_in ?k1 ?k2 ?k3 ?k4 ?k5 ?k6 ?k7 ?k8 ?kB ?c2 ?c3 ?c4 ?c5 ?_; (case k1 => k_asm); (case k2 => k_asm); (case k3 => k_asm); (case k4 => exact Top.nolimit (by assumption)); (case k5 => k_is); (case k6 => k_is); (case k7 => exact Nat.le_of_ble_eq_true rfl); (case k8 => first | ((with_reducible show BindsTo _ _ ⟨[_], []⟩ _); first | exact BindsTo.of_eq (binds := [(_, _)]) rfl | exact binds_K (binds := [(_, _)]) (by k_in) rfl (by k_is) rfl rfl rfl) | ((with_reducible show BindsTo _ _ ⟨[_, _], []⟩ _); first | exact BindsTo.of_eq (binds := [(_, _), (_, _)]) rfl | exact binds_K (binds := [(_, _), (_, _)]) (by k_in) rfl (by k_is) rfl rfl rfl) | ((with_reducible show BindsTo _ _ ⟨[_, _, _], []⟩ _); first | exact BindsTo.of_eq (binds := [(_, _), (_, _), (_, _)]) rfl | exact binds_K (binds := [(_, _), (_, _), (_, _)]) (by k_in) rfl (by k_is) rfl rfl rfl) | ((with_reducible show BindsTo _ _ ⟨[_, _, _, _], []⟩ _); first | exact BindsTo.of_eq (binds := [(_, _), (_, _), (_, _), (_, _)]) rfl | exact binds_K (binds := [(_, _), (_, _), (_, _), (_, _)]) (by k_in) rfl (by k_is) rfl rfl rfl) | ((with_reducible show BindsTo _ _ ⟨[_, _, _, _, _], []⟩ _); first | exact BindsTo.of_eq (binds := [(_, _), (_, _), (_, _), (_, _), (_, _)]) rfl | exact binds_K (binds := [(_, _), (_, _), (_, _), (_, _), (_, _)]) (by k_in) rfl (by k_is) rfl rfl rfl)); (case c5 => decide); (case kB => exact locs rfl); (case c2 => exact rfl); (case c3 => exact rfl); (case c4 => exact rfl); k_whole; intro zqoLp zqLp zqhp zqtkp zqFp zqNp zql1 zqn1; (try k_lt zql1); (try (replace zqn1 := allNe_of zqn1; simp only [AllNe, and_true] at zqn1)); (try dsimp only); walk_at "mine texts")))
  k_with "call builtin:str.join" => ((k_here; (with_reducible show wpAny _ _ (call (Value.builtin "str.join") [Value.str _ _, Value.ref _]) _ _ _); k_dflt (refine join_listC (by is_list) (by repeat constructor) (by decide) (by (simp only [List.map_cons, List.map_nil, List.sum_cons, List.sum_nil, List.length_cons, List.length_nil]; omega)) ?_); intro zqtp zqkp))
  k_with "getMethod type:Exception" => ((k_here; refine' method_type ?F ?X ?m (by decide +kernel) ?e ?h ?_; (case F => k_asm); (case X => k_asm); (case m => exact meta_Exception); (case e => k_dflt k_is); (case h => k_handed)))
  k_with "compareOp IsNot" => ((k_here; k_dflt (refine isNot_none (by assumption) ?_)))
  k_with "call builtin:str.format" => ((k_here; k_dflt (refine' line_use ?k1 ?k2 ?k3 ?k4 ?k5 ?k6 ?k7 ?_; (case k1 => assumption); (case k2 => k_asm); (case k3 => k_asm); (case k4 => exact rfl); (case k5 => exact rfl); (case k6 => exact Nat.le_of_ble_eq_true rfl); (case k7 => exact Nat.le_of_ble_eq_true rfl); k_whole; intro zqhp zqup zqtkp zqFp zqNp)))
  k_with "call builtin:str.format" => ((k_here; (with_reducible show wpAny _ _ (call (Value.builtin "str.format") [Value.str _ _, _, _, _, _]) _ _ _); k_dflt (refine' fmt_use ?k1 ?k2 ?k3 ?k4 ?k5 ?_; (case k1 => k_asm); (case k2 => k_asm); (case k3 => exact ⟨rfl, rfl, Nat.le_of_ble_eq_true rfl, Nat.le_of_ble_eq_true rfl⟩); (case k4 => exact args_5 _ _ _ _ _); (case k5 => walk_at "mine fmt")); k_whole; intro zqhp zqup zqtkp zqFp zqNp))
  k_with "pyReprObj" => ((k_here; k_dflt (refine' reprObj_use ?k1 ?k2 ?k3 ?k4 ?k5 ?k6 ?k7 ?_; (case k1 => assumption); (case k2 => k_asm); (case k3 => k_asm); (case k4 => exact rfl); (case k5 => exact rfl); (case k6 => exact Nat.le_of_ble_eq_true rfl); (case k7 => exact Nat.le_of_ble_eq_true rfl); k_whole; intro zqhp zqup zqtkp zqFp zqNp)))
  trivial
set_option pp.deepTerms false
set_option pp.deepTerms.threshold 14
set_option pp.proofs false
theorem layW07t3 : True := by
  k_with "call ref" => ((refine haltw_ ?_))
  k_with "call builtin:isinstance" => ((k_here; refine haltw_ ?_))
  k_with "call builtin:str.join" => ((refine haltw_ ?_))
  k_with "CompSrc" => ((with_reducible refine haltw_ ?_))
  k_with "subscriptTail" => ((k_here; refine haltw_ ?_))
  k_with "eval ListComp" => ((k_here; k_dflt (refine LCg.ListComp_U (F₀ := by k_asm) (by with_unfolding_all rfl) (by decide) (by rfl) (by decide) (by rfl) ?_)))
  trivial
theorem wr7_tup : ∀ {p : Program} {loose : List Str} {mean : ExcName → Option Value} {mg mb : Str → Option Value} (w : World) (s : Shared) (a b : Addr) (vs : List Value) (ns : List Int) (n : Nat) (hb : s.heap.get? b = some (tupObj [.ref a])) (ha : s.heap.get? a = some (listOf vs.toArray n)) (hi : IntsAre vs ns) (hf : Few ns)
    (Q E : Value → Shared → Prop) (KX : (hz.heap_193 w.params).In s.heap) (T : Top p loose mean mg mb s.heap)
    (hQ : ∀ h' tk (u : Tok), Grow s.heap h' → Q (.str (PyData.tuple [.list (ns.map .int)]).shown u) { s with heap := h', toks := tk }),
    wpAny (model PySem.Challenge.rw_dm0028_07.prog w) (AD 600 2000) (call (.ref 196) [.ref b]) Q E s := by
  w_top off
  k_fill
  intro p loose mean mg mb w s a b vs ns n hb ha hi hf Q E KX T hQ
  obtain ⟨hh, g, dr, tk, os⟩ := s
  dsimp only at KX T ha hb hQ
  w_strict (
  refine wpAny_call ?_
  k_dflt (refine' enter_new (h₀ := hh) (binds := [("name", .ref b)]) (news := []) ?k1 ?k2 KX T.nolimit ?k9 ?k5 ?k6 ?k7 ?k8 ?kB ?c2 ?c3 ?c4 ?c5 ?_; (case k5 => k_is); (case k6 => k_is); (case k7 => exact Nat.le_of_ble_eq_true rfl); (case k8 => first | exact BindsTo.of_eq rfl | exact binds_K KX rfl (by k_is) rfl rfl rfl); (case c5 => decide); (case kB => exact locs rfl); (case c2 => exact rfl); (case c3 => exact rfl); (case c4 => exact rfl); (case k1 => exact fun _ _ e => e); (case k2 => exact Nat.le_refl _); (case k9 => exact List.forall_mem_nil _))
  intro L' h' tk' F' N' l1
  walk_at "mine texts"
  rw [show (PyData.tuple [.list (ns.map .int)]).shown = Str.ofString "(" ++ (PyData.list (ns.map .int)).shown ++ Str.ofString ",)" from by simp only [PyData.shown, PyData.shownAll]; rfl] at hQ
  have hls : (PyData.list (ns.map .int)).shown.length ≤ 300010 := few_list hf
  k_steps
  unfold Halt
  refine kia_one (K := hz.heap_193 w.params) kitx_tuple (Frag.In.keeps KX (Fr.keep (by k_asm))) ⟨_, Fr.keep (by k_asm) _ _ hb, rfl⟩ (by kernel_rfl : kitOne _ (.type "tuple") (.type "str") = some false) (by intro q; cases q) ?_
  intro tk1
  dsimp only
  k_steps
  unfold Halt
  refine kia_one (K := hz.heap_193 w.params) kitx_tuple (Frag.In.keeps KX (Fr.keep (by k_asm))) ⟨_, Fr.keep (by k_asm) _ _ hb, rfl⟩ (by kernel_rfl : kitOne _ (.type "tuple") (.type "tuple") = some true) (by intro q; cases q) ?_
  intro tk2
  dsimp only
  k_steps
  unfold Halt
  (with_reducible rename Fr _ _ _ _ => F3)
  (with_reducible rename News _ _ _ _ => N3)
  refine item_tupH (xs := [.ref a]) 0 rfl (F3.keep _ _ hb) rfl (Nat.le_of_ble_eq_true rfl) ?_
  k_steps
  unfold Halt
  (with_reducible rename Fr _ _ _ _ => F4)
  (with_reducible rename News _ _ _ _ => N4)
  refine txt_use (fun Q E hQ => wr7_list w _ a vs ns n (F4.keep _ _ ha) hi hf Q E (Frag.In.keeps KX F4.keep) (Top.keeps (by assumption) F4.keep) hQ) F4 N4 rfl rfl (Nat.le_of_ble_eq_true rfl) (Nat.le_of_ble_eq_true rfl) ?_
  intro h5 tk5 u5 F5 N5
  clear F4 N4
  dsimp only
  k_steps
  exact hQ _ _ _ (Fr.keep (by k_asm)))
end
section
open PySem PySem.W PySem.Calls PyProof.Rows PySem.SeqAt
set_option Elab.async false
set_option maxRecDepth 100000
set_option maxHeartbeats 4000000
set_option linter.unusedVariables false
abbrev P07 : Program := PySem.Challenge.rw_dm0028_07.prog
noncomputable abbrev KP7 (w : World) : Frag := hz.heap_193 w.params
theorem few_list2 {ns : List Int} (f : Few ns) : (PyData.list (ns.map .int)).shown.length ≤ 26000 := by
  have hl : (PyData.shownAll (ns.map .int)).length ≤ 5 := by rw [all_len, List.length_map]; exact f.1
  have hj : (Txt.join (Str.ofString ", ") (PyData.shownAll (ns.map .int))).length ≤ 25100 := by
    have hs := few_short f
    generalize PyData.shownAll (ns.map .int) = ts at hl hs
    rw [txt_join]
    by_cases e : ts = []
    · subst e; decide
    · have h1 := join_length_add ts e
      have h2 := piled_small hs
      have h3 : ts.length * (5000 + 2) ≤ 5 * 5002 := Nat.mul_le_mul_right _ hl
      have h4 : (Str.join (Str.ofString ", ") ts).length = (Str.join ", " ts).length := rfl
      omega
  show (listText (PyData.shownAll (ns.map .int))).length ≤ 26000
  rw [← list_text, PySem.Str.length_append, PySem.Str.length_append]
  have h1 : (Str.ofString "[").length = 1 := rfl
  have h2 : (Str.ofString "]").length = 1 := rfl
  omega
theorem one7 (d : PyData) : (PyData.tuple [d]).shown = Str.ofString "(" ++ d.shown ++ Str.ofString ",)" := by
  simp only [PyData.shown, PyData.shownAll]
  rfl
def Short7 (d : PyData) : Prop := d.shown.length ≤ 26010
section
variable {p : Program} {loose : List Str} {mean : ExcName → Option Value} {mg mb : Str → Option Value}
variable {w : World} {A : Around} {E : Value → Shared → Prop} {s : Shared} {h₀ h : Heap} {L : Addr} {m : Str → Option Value} {news : List (Addr × Obj)} {Q : Value → Shared → Prop} {v : Value} {d : PyData}
theorem V7.handed (x : V7 h v d) : handedIn v = true := by
  cases x <;> rfl
theorem V7.not_none (x : V7 h v d) : v ≠ .none := by
  cases x <;> (intro q; cases q)
theorem V7.short (x : V7 h v d) : Short7 d := by
  cases x with
  | str t => exact Nat.le_of_ble_eq_true (by decide +kernel)
  | list a b c e => exact Nat.le_trans (few_list2 e) (by decide)
  | tup a b c e f =>
    have h1 := few_list2 f
    unfold Short7
    rw [one7]
    rw [PySem.Str.length_append, PySem.Str.length_append]
    have h1 : (Str.ofString "(").length = 1 := rfl
    have h2 : (Str.ofString ",)").length = 2 := rfl
    omega
theorem V7.rep (x : V7 h v d) : Rep P07 w h v d.shown := by
  obtain ⟨as, r, n⟩ := x.reads
  exact rep_reads r x.show n (Nat.le_trans x.short (by decide)) (Nat.le_trans x.depth (by decide))
/-- _law_written writes a name as repr does -/
theorem writ7 (x : V7 s.heap v d) (KX : (KP7 w).In s.heap) (T : Top p loose mean mg mb s.heap) (hQ : ∀ h' tk u, Grow s.heap h' → Q (.str d.shown u) { s with heap := h', toks := tk }) : wpAny (model P07 w) (AD 600 2000) (call (.ref 196) [v]) Q E s := by
  cases x with
  | str t => exact weaken rfl rfl (Nat.le_of_ble_eq_true rfl) (Nat.le_of_ble_eq_true rfl) (wr7_str w s t Q E KX T hQ)
  | list a b c e => exact weaken rfl rfl (Nat.le_of_ble_eq_true rfl) (Nat.le_of_ble_eq_true rfl) (wr7_list w s _ _ _ _ a c e Q E KX T hQ)
  | tup a b c e f => exact wr7_tup w s _ _ _ _ _ a b e f Q E KX T hQ
theorem wr7_use (F : Fr h₀ L s.heap m) (X₀ : (KP7 w).In h₀) (T : Top p loose mean mg mb h₀) (N : News h₀ L s.heap news) (x : V7 h₀ v d) (a1 : A.handled = none) (a2 : A.guards = some []) (a3 : A.depth ≤ 600) (a4 : A.units ≤ 2000)
    (q : ∀ h' u tk, Fr h₀ L h' m → News h₀ L h' news → Q (.str d.shown u) { s with heap := h', toks := tk }) : wpAny (model P07 w) A (call (.ref 196) [v]) Q E s :=
  weaken a1 a2 a3 a4 (writ7 (x.mono F.keep) (X₀.keeps F.keep) (T.keeps F.keep) fun h' tk u g => q h' u tk (fr_grow F g) (news_grow N g))
end
end
section
theorem layKc07a1 : True := by
  k_with_none
  k_with "ne" => (with_reducible (first | exact ns1 | exact ns2 | exact qlt (by assumption) | exact qgt (by assumption) | exact qne (by assumption) | exact qen (by assumption) | exact rlt (by assumption) | exact rgt (by assumption) | exact rne (by assumption) | exact ren (by assumption) | exact qlt (And.right (by assumption)) | exact qgt (And.right (by assumption)) | exact qne (And.right (by assumption)) | exact qen (And.right (by assumption)) | exact rlt (And.right (by assumption)) | exact rgt (And.right (by assumption)) | exact rne (And.right (by assumption)) | exact ren (And.right (by assumption)) | exact qlt (And.right (And.right (by assumption))) | exact qgt (And.right (And.right (by assumption))) | exact qne (And.right (And.right (by assumption))) | exact qen (And.right (And.right (by assumption))) | exact rlt (And.right (And.right (by assumption))) | exact rgt (And.right (And.right (by assumption))) | exact rne (And.right (And.right (by assumption))) | exact ren (And.right (And.right (by assumption))) | exact qlt (And.right (And.right (And.right (by assumption)))) | exact qgt (And.right (And.right (And.right (by assumption)))) | exact qne (And.right (And.right (And.right (by assumption)))) | exact qen (And.right (And.right (And.right (by assumption)))) | exact rlt (And.right (And.right (And.right (by assumption)))) | exact rgt (And.right (And.right (And.right (by assumption)))) | exact rne (And.right (And.right (And.right (by assumption)))) | exact ren (And.right (And.right (And.right (by assumption)))) | exact qlt (And.right (And.right (And.right (And.right (by assumption))))) | exact qgt (And.right (And.right (And.right (And.right (by assumption))))) | exact qne (And.right (And.right (And.right (And.right (by assumption))))) | exact qen (And.right (And.right (And.right (And.right (by assumption))))) | exact rlt (And.right (And.right (And.right (And.right (by assumption))))) | exact rgt (And.right (And.right (And.right (And.right (by assumption))))) | exact rne (And.right (And.right (And.right (And.right (by assumption))))) | exact ren (And.right (And.right (And.right (And.right (by assumption))))) | exact qlt (And.right (And.right (And.right (And.right (And.right (by assumption)))))) | exact qgt (And.right (And.right (And.right (And.right (And.right (by assumption)))))) | exact qne (And.right (And.right (And.right (And.right (And.right (by assumption)))))) | exact qen (And.right (And.right (And.right (And.right (And.right (by assumption)))))) | exact rlt (And.right (And.right (And.right (And.right (And.right (by assumption)))))) | exact rgt (And.right (And.right (And.right (And.right (And.right (by assumption)))))) | exact rne (And.right (And.right (And.right (And.right (And.right (by assumption)))))) | exact ren (And.right (And.right (And.right (And.right (And.right (by assumption)))))) | exact qlt (And.right (And.right (And.right (And.right (And.right (And.right (by assumption))))))) | exact qgt (And.right (And.right (And.right (And.right (And.right (And.right (by assumption))))))) | exact qne (And.right (And.right (And.right (And.right (And.right (And.right (by assumption))))))) | exact qen (And.right (And.right (And.right (And.right (And.right (And.right (by assumption))))))) | exact rlt (And.right (And.right (And.right (And.right (And.right (And.right (by assumption))))))) | exact rgt (And.right (And.right (And.right (And.right (And.right (And.right (by assumption))))))) | exact rne (And.right (And.right (And.right (And.right (And.right (And.right (by assumption))))))) | exact ren (And.right (And.right (And.right (And.right (And.right (And.right (by assumption))))))) | exact qlt (And.right (And.right (And.right (And.right (And.right (And.right (And.right (by assumption)))))))) | exact qgt (And.right (And.right (And.right (And.right (And.right (And.right (And.right (by assumption)))))))) | exact qne (And.right (And.right (And.right (And.right (And.right (And.right (And.right (by assumption)))))))) | exact qen (And.right (And.right (And.right (And.right (And.right (And.right (And.right (by assumption)))))))) | exact rlt (And.right (And.right (And.right (And.right (And.right (And.right (And.right (by assumption)))))))) | exact rgt (And.right (And.right (And.right (And.right (And.right (And.right (And.right (by assumption)))))))) | exact rne (And.right (And.right (And.right (And.right (And.right (And.right (And.right (by assumption)))))))) | exact ren (And.right (And.right (And.right (And.right (And.right (And.right (And.right (by assumption)))))))) | exact qlt (And.right (And.right (And.right (And.right (And.right (And.right (And.right (And.right (by assumption))))))))) | exact qgt (And.right (And.right (And.right (And.right (And.right (And.right (And.right (And.right (by assumption))))))))) | exact qne (And.right (And.right (And.right (And.right (And.right (And.right (And.right (And.right (by assumption))))))))) | exact qen (And.right (And.right (And.right (And.right (And.right (And.right (And.right (And.right (by assumption))))))))) | exact rlt (And.right (And.right (And.right (And.right (And.right (And.right (And.right (And.right (by assumption))))))))) | exact rgt (And.right (And.right (And.right (And.right (And.right (And.right (And.right (And.right (by assumption))))))))) | exact rne (And.right (And.right (And.right (And.right (And.right (And.right (And.right (And.right (by assumption))))))))) | exact ren (And.right (And.right (And.right (And.right (And.right (And.right (And.right (And.right (by assumption))))))))) | exact qlt (And.right (And.right (And.right (And.right (And.right (And.right (And.right (And.right (And.right (by assumption)))))))))) | exact qgt (And.right (And.right (And.right (And.right (And.right (And.right (And.right (And.right (And.right (by assumption)))))))))) | exact qne (And.right (And.right (And.right (And.right (And.right (And.right (And.right (And.right (And.right (by assumption)))))))))) | exact qen (And.right (And.right (And.right (And.right (And.right (And.right (And.right (And.right (And.right (by assumption)))))))))) | exact rlt (And.right (And.right (And.right (And.right (And.right (And.right (And.right (And.right (And.right (by assumption)))))))))) | exact rgt (And.right (And.right (And.right (And.right (And.right (And.right (And.right (And.right (And.right (by assumption)))))))))) | exact rne (And.right (And.right (And.right (And.right (And.right (And.right (And.right (And.right (And.right (by assumption)))))))))) | exact ren (And.right (And.right (And.right (And.right (And.right (And.right (And.right (And.right (And.right (by assumption)))))))))) | exact qlt (And.right (And.right (And.right (And.right (And.right (And.right (And.right (And.right (And.right (And.right (by assumption))))))))))) | exact qgt (And.right (And.right (And.right (And.right (And.right (And.right (And.right (And.right (And.right (And.right (by assumption))))))))))) | exact qne (And.right (And.right (And.right (And.right (And.right (And.right (And.right (And.right (And.right (And.right (by assumption))))))))))) | exact qen (And.right (And.right (And.right (And.right (And.right (And.right (And.right (And.right (And.right (And.right (by assumption))))))))))) | exact rlt (And.right (And.right (And.right (And.right (And.right (And.right (And.right (And.right (And.right (And.right (by assumption))))))))))) | exact rgt (And.right (And.right (And.right (And.right (And.right (And.right (And.right (And.right (And.right (And.right (by assumption))))))))))) | exact rne (And.right (And.right (And.right (And.right (And.right (And.right (And.right (And.right (And.right (And.right (by assumption))))))))))) | exact ren (And.right (And.right (And.right (And.right (And.right (And.right (And.right (And.right (And.right (And.right (by assumption))))))))))) | exact qlt (And.right (And.right (And.right (And.right (And.right (And.right (And.right (And.right (And.right (And.right (And.right (by assumption)))))))))))) | exact qgt (And.right (And.right (And.right (And.right (And.right (And.right (And.right (And.right (And.right (And.right (And.right (by assumption)))))))))))) | exact qne (And.right (And.right (And.right (And.right (And.right (And.right (And.right (And.right (And.right (And.right (And.right (by assumption)))))))))))) | exact qen (And.right (And.right (And.right (And.right (And.right (And.right (And.right (And.right (And.right (And.right (And.right (by assumption)))))))))))) | exact rlt (And.right (And.right (And.right (And.right (And.right (And.right (And.right (And.right (And.right (And.right (And.right (by assumption)))))))))))) | exact rgt (And.right (And.right (And.right (And.right (And.right (And.right (And.right (And.right (And.right (And.right (And.right (by assumption)))))))))))) | exact rne (And.right (And.right (And.right (And.right (And.right (And.right (And.right (And.right (And.right (And.right (And.right (by assumption)))))))))))) | exact ren (And.right (And.right (And.right (And.right (And.right (And.right (And.right (And.right (And.right (And.right (And.right (by assumption)))))))))))) | exact qlt (And.right (And.right (And.right (And.right (And.right (And.right (And.right (And.right (And.right (And.right (And.right (And.right (by assumption))))))))))))) | exact qgt (And.right (And.right (And.right (And.right (And.right (And.right (And.right (And.right (And.right (And.right (And.right (And.right (by assumption))))))))))))) | exact qne (And.right (And.right (And.right (And.right (And.right (And.right (And.right (And.right (And.right (And.right (And.right (And.right (by assumption))))))))))))) | exact qen (And.right (And.right (And.right (And.right (And.right (And.right (And.right (And.right (And.right (And.right (And.right (And.right (by assumption))))))))))))) | exact rlt (And.right (And.right (And.right (And.right (And.right (And.right (And.right (And.right (And.right (And.right (And.right (And.right (by assumption))))))))))))) | exact rgt (And.right (And.right (And.right (And.right (And.right (And.right (And.right (And.right (And.right (And.right (And.right (And.right (by assumption))))))))))))) | exact rne (And.right (And.right (And.right (And.right (And.right (And.right (And.right (And.right (And.right (And.right (And.right (And.right (by assumption))))))))))))) | exact ren (And.right (And.right (And.right (And.right (And.right (And.right (And.right (And.right (And.right (And.right (And.right (And.right (by assumption))))))))))))) | exact qlt (And.right (And.right (And.right (And.right (And.right (And.right (And.right (And.right (And.right (And.right (And.right (And.right (And.right (by assumption)))))))))))))) | exact qgt (And.right (And.right (And.right (And.right (And.right (And.right (And.right (And.right (And.right (And.right (And.right (And.right (And.right (by assumption)))))))))))))) | exact qne (And.right (And.right (And.right (And.right (And.right (And.right (And.right (And.right (And.right (And.right (And.right (And.right (And.right (by assumption)))))))))))))) | exact qen (And.right (And.right (And.right (And.right (And.right (And.right (And.right (And.right (And.right (And.right (And.right (And.right (And.right (by assumption)))))))))))))) | exact rlt (And.right (And.right (And.right (And.right (And.right (And.right (And.right (And.right (And.right (And.right (And.right (And.right (And.right (by assumption)))))))))))))) | exact rgt (And.right (And.right (And.right (And.right (And.right (And.right (And.right (And.right (And.right (And.right (And.right (And.right (And.right (by assumption)))))))))))))) | exact rne (And.right (And.right (And.right (And.right (And.right (And.right (And.right (And.right (And.right (And.right (And.right (And.right (And.right (by assumption)))))))))))))) | exact ren (And.right (And.right (And.right (And.right (And.right (And.right (And.right (And.right (And.right (And.right (And.right (And.right (And.right (by assumption)))))))))))))) | exact qlt (And.right (And.right (And.right (And.right (And.right (And.right (And.right (And.right (And.right (And.right (And.right (And.right (And.right (And.right (by assumption))))))))))))))) | exact qgt (And.right (And.right (And.right (And.right (And.right (And.right (And.right (And.right (And.right (And.right (And.right (And.right (And.right (And.right (by assumption))))))))))))))) | exact qne (And.right (And.right (And.right (And.right (And.right (And.right (And.right (And.right (And.right (And.right (And.right (And.right (And.right (And.right (by assumption))))))))))))))) | exact qen (And.right (And.right (And.right (And.right (And.right (And.right (And.right (And.right (And.right (And.right (And.right (And.right (And.right (And.right (by assumption))))))))))))))) | exact rlt (And.right (And.right (And.right (And.right (And.right (And.right (And.right (And.right (And.right (And.right (And.right (And.right (And.right (And.right (by assumption))))))))))))))) | exact rgt (And.right (And.right (And.right (And.right (And.right (And.right (And.right (And.right (And.right (And.right (And.right (And.right (And.right (And.right (by assumption))))))))))))))) | exact rne (And.right (And.right (And.right (And.right (And.right (And.right (And.right (And.right (And.right (And.right (And.right (And.right (And.right (And.right (by assumption))))))))))))))) | exact ren (And.right (And.right (And.right (And.right (And.right (And.right (And.right (And.right (And.right (And.right (And.right (And.right (And.right (And.right (by assumption))))))))))))))) | exact qlt (And.right (And.right (And.right (And.right (And.right (And.right (And.right (And.right (And.right (And.right (And.right (And.right (And.right (And.right (And.right (by assumption)))))))))))))))) | exact qgt (And.right (And.right (And.right (And.right (And.right (And.right (And.right (And.right (And.right (And.right (And.right (And.right (And.right (And.right (And.right (by assumption)))))))))))))))) | exact qne (And.right (And.right (And.right (And.right (And.right (And.right (And.right (And.right (And.right (And.right (And.right (And.right (And.right (And.right (And.right (by assumption)))))))))))))))) | exact qen (And.right (And.right (And.right (And.right (And.right (And.right (And.right (And.right (And.right (And.right (And.right (And.right (And.right (And.right (And.right (by assumption)))))))))))))))) | exact rlt (And.right (And.right (And.right (And.right (And.right (And.right (And.right (And.right (And.right (And.right (And.right (And.right (And.right (And.right (And.right (by assumption)))))))))))))))) | exact rgt (And.right (And.right (And.right (And.right (And.right (And.right (And.right (And.right (And.right (And.right (And.right (And.right (And.right (And.right (And.right (by assumption)))))))))))))))) | exact rne (And.right (And.right (And.right (And.right (And.right (And.right (And.right (And.right (And.right (And.right (And.right (And.right (And.right (And.right (And.right (by assumption)))))))))))))))) | exact ren (And.right (And.right (And.right (And.right (And.right (And.right (And.right (And.right (And.right (And.right (And.right (And.right (And.right (And.right (And.right (by assumption))))))))))))))))))
  trivial
theorem layKc07a2 : True := by
  k_with "mine texts" => ((try dsimp only [← sx0, ← sx1, ← sx2, ← sx3, ← sx4, ← sx5, ← sx6, ← sx7, ← sx8, ← sx9, ← sx10, ← sx11, ← sx12, ← sx13, ← sx14, ← sx15, ← sx16, ← sx17, ← sx18, ← sx19, ← sx20, ← sx21, ← sx22, ← sx23, ← sx24, ← sx25, ← sx26, ← sx27, ← sx28, ← sx29, ← sx30, ← sx31, ← sx32, ← sx33, ← sx34, ← sx35, ← sx36, ← sx37, ← sx38, ← sx39, ← sx40, ← sx41, ← sx42, ← sx43, ← sx44, ← sx45, ← sx46, ← sx47, ← sx48, ← sx49, ← sx50, ← sx51, ← sx52, ← sx53, ← sx54, ← sx55, ← sx56, ← sx57, ← sx58, ← sx59, ← sx60, ← sx61, ← sx62, ← sx63, ← sx64, ← sx65, ← sx66, ← sx67, ← sx68, ← sx69, ← sx70, ← sx71, ← sx72, ← sx73, ← sx74, ← sx75, ← sx76, ← sx77, ← sx78, ← sx79, ← sx80, ← sx81, ← sx82, ← sx83, ← sx84, ← sx85, ← sx86, ← sx87, ← sx88, ← sx89, ← sx90, ← sx91, ← sx92, ← sx93, ← sx94, ← sx95, ← sx96, ← sx97, ← sx98, ← sx99, ← sx100, ← sx101, ← sx102, ← sx103, ← sx104, ← sx105, ← sx106, ← sx107, ← sx108, ← sx109]))
  k_with "mine drop" => (first | (refine' Drop.head ?a; (case a => k_all)) | (refine' Drop.tail ?a ?b; (case a => k_ne); (case b => walk_at "mine drop")))
  k_with "setAttr ref" => ((k_here; k_dflt (first | (refine' exc_set0 ?k1 ?k2 ?k3 ?k4 ?k5 ?k6 ?k7 ?k8 ?k9 ?_; (case k1 => k_asm); (case k2 => k_asm); (case k3 => k_asm); (case k4 => k_mem); (case k5 => k_is); (case k6 => kernel_rfl); (case k7 => k_is); (case k8 => k_is); (case k9 => intro zqd; k_upd); k_whole; intro zqdp zqhp zqFp zqNp zql1; (try k_lt zql1)) | (refine' exc_set_args ?k1 ?k2 ?k3 ?k4 ?k5 ?k6 ?k7 ?k8 ?k9 ?k10 ?_; (case k1 => k_asm); (case k2 => k_asm); (case k3 => k_asm); (case k4 => first | (refine' InstAt.of_exc ?N ?h1 ?h2; (case N => k_asm); (case h1 => k_mem); (case h2 => k_mem)) | (refine' InstAt.of_exc0 ?N ?h1; (case N => k_asm); (case h1 => k_mem))); (case k5 => exact isTup_of (by k_asm) (by k_mem)); (case k6 => k_is); (case k7 => kernel_rfl); (case k8 => k_is); (case k9 => k_is); (case k10 => k_upd); k_whole; intro zqhp zqFp zqNp) | (refine' exc_set ?k1 ?k2 ?k3 ?k4 ?k5 ?k6 ?k7 ?k8 ?k9 ?k10 ?k11 ?k12 ?_; (case k1 => k_asm); (case k2 => k_asm); (case k3 => k_asm); (case k4 => first | (refine' InstAt.of_exc ?N ?h1 ?h2; (case N => k_asm); (case h1 => k_mem); (case h2 => k_mem)) | (refine' InstAt.of_exc0 ?N ?h1; (case N => k_asm); (case h1 => k_mem))); (case k5 => k_is); (case k6 => kernel_rfl); (case k7 => k_is); (case k8 => k_is); (case k9 => k_get); (case k10 => k_put); (case k11 => k_upd); (case k12 => exact Nat.le_of_ble_eq_true rfl); k_whole; intro zqhp zqFp zqNp))))
  k_with "call builtin:Exception.__init__" => ((k_here; k_dflt (refine' exc_init_call ?k1 ?k2 ?k3 ?k4 ?k5 ?k6 ?_; (case k1 => k_asm); (case k2 => k_asm); (case k3 => k_asm); (case k4 => first | (refine' InstAt.of_exc ?N ?h1 ?h2; (case N => k_asm); (case h1 => k_mem); (case h2 => k_mem)) | (refine' InstAt.of_exc0 ?N ?h1; (case N => k_asm); (case h1 => k_mem))); (case k5 => k_is); (case k6 => intro zqt; k_upd); k_whole; intro zqtp zqhp zqFp zqNp zql1; (try k_lt zql1))))
  k_with "call builtin:repr" => ((k_here; k_dflt (refine' repr_use ?k1 ?k2 ?k3 ?k4 ?k5 ?k6 ?k7 ?_; (case k1 => assumption); (case k2 => k_asm); (case k3 => k_asm); (case k4 => exact rfl); (case k5 => exact rfl); (case k6 => exact Nat.le_of_ble_eq_true rfl); (case k7 => exact Nat.le_of_ble_eq_true rfl); k_whole; intro zqhp zqup zqtkp zqFp zqNp)))
  k_with "BackIn" => ((k_dflt (refine' back_ ?k1 ?k2 ?k3 ?_; (case k1 => k_asm); (case k2 => k_asm); (case k3 => walk_at "mine drop"); k_whole; intro zqFp zqNp; (try dsimp only))))
  k_with "call ref" => ((k_here; k_dflt (refine wpAny_call ?_; refine' enter_in ?k1 ?k2 ?k3 ?k4 ?k5 ?k6 ?k7 ?k8 ?kB ?c2 ?c3 ?c4 ?c5 ?_; (case k1 => k_asm); (case k2 => k_asm); (case k3 => k_asm); (case k4 => exact Top.nolimit (by assumption)); (case k5 => k_is); (case k6 => k_is); (case k7 => exact Nat.le_of_ble_eq_true rfl); (case k8 => first | ((with_reducible show BindsTo _ _ ⟨[_], []⟩ _); first | exact BindsTo.of_eq (binds := [(_, _)]) rfl | exact binds_K (binds := [(_, _)]) (by k_in) rfl (by k_is) rfl rfl rfl) | ((with_reducible show BindsTo _ _ ⟨[_, _], []⟩ _); first | exact BindsTo.of_eq (binds := [(_, _), (_, _)]) rfl | exact binds_K (binds := [(_, _), (_, _)]) (by k_in) rfl (by k_is) rfl rfl rfl) | ((with_reducible show BindsTo _ _ ⟨[_, _, _], []⟩ _); first | exact BindsTo.of_eq (binds := [(_, _), (_, _), (_, _)]) rfl | exact binds_K (binds := [(_, _), (_, _), (_, _)]) (by k_in) rfl (by k_is) rfl rfl rfl) | ((with_reducible show BindsTo _ _ ⟨[_, _, _, _], []⟩ _); first | exact BindsTo.of_eq (binds := [(_, _), (_, _), (_, _), (_, _)]) rfl | exact binds_K (binds := [(_, _), (_, _), (_, _), (_, _)]) (by k_in) rfl (by k_is) rfl rfl rfl) | ((with_reducible show BindsTo _ _ ⟨[_, _, _, _, _], []⟩ _); first | exact BindsTo.of_eq (binds := [(_, _), (_, _), (_, _), (_, _), (_, _)]) rfl | exact binds_K (binds := [(_, _), (_, _), (_, _), (_, _), (_, _)]) (by k_in) rfl (by k_is) rfl rfl rfl)); (case c5 => decide); (case kB => exact locs rfl); (case c2 => exact rfl); (case c3 => exact rfl); (case c4 => exact rfl); k_whole; intro zqoLp zqLp zqhp zqtkp zqFp zqNp zql1 zqn1; (try k_lt zql1); (try (replace zqn1 := allNe_of zqn1; simp only [AllNe, and_true] at zqn1)); (try dsimp only); walk_at "mine texts")))
  k_with "call builtin:str.join" => ((k_here; (with_reducible show wpAny _ _ (call (Value.builtin "str.join") [Value.str _ _, Value.ref _]) _ _ _); k_dflt (refine join_listC (by is_list) (by repeat constructor) (by decide) (by (simp only [List.map_cons, List.map_nil, List.sum_cons, List.sum_nil, List.length_cons, List.length_nil]; omega)) ?_); intro zqtp zqkp))
  k_with "getMethod type:Exception" => ((k_here; refine' method_type ?F ?X ?m (by decide +kernel) ?e ?h ?_; (case F => k_asm); (case X => k_asm); (case m => exact meta_Exception); (case e => k_dflt k_is); (case h => k_handed)))
  k_with "compareOp IsNot" => ((k_here; k_dflt (refine isNot_none (by assumption) ?_)))
  k_with "call builtin:str.format" => ((k_here; k_dflt (refine' line_use ?k1 ?k2 ?k3 ?k4 ?k5 ?k6 ?k7 ?_; (case k1 => assumption); (case k2 => k_asm); (case k3 => k_asm); (case k4 => exact rfl); (case k5 => exact rfl); (case k6 => exact Nat.le_of_ble_eq_true rfl); (case k7 => exact Nat.le_of_ble_eq_true rfl); k_whole; intro zqhp zqup zqtkp zqFp zqNp)))
  k_with "call builtin:str.format" => ((k_here; (with_reducible show wpAny _ _ (call (Value.builtin "str.format") [Value.str _ _, _, _, _, _]) _ _ _); k_dflt (refine' fmt_use ?k1 ?k2 ?k3 ?k4 ?k5 ?_; (case k1 => k_asm); (case k2 => k_asm); (case k3 => exact ⟨rfl, rfl, Nat.le_of_ble_eq_true rfl, Nat.le_of_ble_eq_true rfl⟩); (case k4 => exact args_5 _ _ _ _ _); (case k5 => walk_at "mine fmt")); k_whole; intro zqhp zqup zqtkp zqFp zqNp))
  k_with "pyReprObj" => ((k_here; k_dflt (refine' reprObj_use ?k1 ?k2 ?k3 ?k4 ?k5 ?k6 ?k7 ?_; (case k1 => assumption); (case k2 => k_asm); (case k3 => k_asm); (case k4 => exact rfl); (case k5 => exact rfl); (case k6 => exact Nat.le_of_ble_eq_true rfl); (case k7 => exact Nat.le_of_ble_eq_true rfl); k_whole; intro zqhp zqup zqtkp zqFp zqNp)))
  k_with "call ref" => ((k_here; (with_reducible show wpAny _ _ (call (Value.ref 29) [Value.ref _, Value.str _ _]) _ _ _); k_dflt (refine' errIni ?k1 ?k2 ?k3 ?k4 ?k5 ?k6 ?k7 ?_; (case k1 => k_asm); (case k2 => k_asm); (case k3 => assumption); (case k4 => k_asm); (case k5 => k_updF); (case k6 => kernel_rfl); (case k7 => exact Nat.le_of_ble_eq_true rfl)); k_whole; intro zqdp zqtp zqhp zqtkp zqukp zqFp zqNp zql1 zql2 zql3; (try dsimp only at zqNp); (try k_lt zql1); (try k_lt zql2)))
  trivial
theorem conNS : ∀ {p : Program} {loose : List Str} {mean : ExcName → Option Value} {mg mb : Str → Option Value} (w : World) (s : Shared) (sec : Value) (rs : Str) (R0 : Rep PySem.Challenge.rw_dm0028_07.prog w s.heap sec rs)
    (Q E : Value → Shared → Prop) (KX : (hz.heap_193 w.params).In s.heap) (T : Top p loose mean mg mb s.heap)
    (hQ : ∀ h' tk e d ta od u, Grow s.heap h' → ErrNew s.heap h' 59 e d ta od (Str.ofString "No section: " ++ rs) u [("section", sec)] [sec] → Q (.ref e) { s with heap := h', toks := tk }),
    wpAny (model PySem.Challenge.rw_dm0028_07.prog w) (AD 600 2000) (call (.ref 59) [sec]) Q E s := by
  w_top off
  k_fill
  intro p loose mean mg mb w s sec rs R0 Q E KX T hQ
  obtain ⟨hh, g, dr, tk, os⟩ := s
  dsimp only at KX T R0 hQ
  have lq0 : (Str.ofString "No section: ").length ≤ 200 := Nat.le_of_ble_eq_true rfl
  have O0 := R0.old
  have sq0 := R0.short
  w_strict (
  refine wpAny_call ?_
  refine exc_make (KX 59 _ (by k_is)) (by decide +kernel) (by decide +kernel) (by decide +kernel) (looks_specialIn KX (by k_is)) (looks_instIn KX (by k_is)) (looks_findIn KX (by k_is)) (fun self => bind_fn KX self (by k_is)) (by size_fits) ?_
  k_dflt (refine' enter_new (h₀ := hh) (binds := [("self", .ref (hh.objs.size + 1)), ("section", sec)]) (news := [(hh.objs.size + 1, excObj 59 none hh.objs.size), (hh.objs.size, tupObj [sec])]) ?k1 ?k2 KX T.nolimit ?k9 ?k5 ?k6 ?k7 ?k8 ?kB ?c2 ?c3 ?c4 ?c5 ?_; (case k5 => k_is); (case k6 => k_is); (case k7 => exact Nat.le_of_ble_eq_true rfl); (case k8 => first | exact BindsTo.of_eq rfl | exact binds_K (Frag.In.keeps KX (made_grow _ _ _)) rfl (by k_is) rfl rfl rfl); (case c5 => decide); (case kB => exact locs rfl); (case c2 => exact rfl); (case c3 => exact rfl); (case c4 => exact rfl); (case k1 => exact made_grow _ _ _); (case k2 => (simp; omega)); (case k9 => exact made_news _ _ _))
  intro L' h' tk' F' N' l1; k_lt l1
  walk_at "mine texts"
  k_steps
  refine ⟨rfl, ?_⟩
  (with_reducible rename Fr _ _ _ _ => Fz)
  (with_reducible rename News _ _ _ _ => Nz)
  refine hQ _ _ _ _ _ _ _ Fz.keep (err_close Nz (by k_mem) (by k_mem) (by k_mem) (Eq.trans (lookIn_dict _ _ _) (by k_get)) ?_)
  intro q hq
  simp only [List.mem_cons, List.not_mem_nil, or_false] at hq
  rcases hq with rfl <;> kernel_rfl)
theorem conNO : ∀ {p : Program} {loose : List Str} {mean : ExcName → Option Value} {mg mb : Str → Option Value} (w : World) (s : Shared) (opt sec : Value) (ro : Str) (R0 : Rep PySem.Challenge.rw_dm0028_07.prog w s.heap opt ro) (rs : Str) (R1 : Rep PySem.Challenge.rw_dm0028_07.prog w s.heap sec rs)
    (Q E : Value → Shared → Prop) (KX : (hz.heap_193 w.params).In s.heap) (T : Top p loose mean mg mb s.heap)
    (hQ : ∀ h' tk e d ta od u, Grow s.heap h' → ErrNew s.heap h' 118 e d ta od (Str.ofString "No option " ++ ro ++ Str.ofString " in section: " ++ rs) u [("option", opt), ("section", sec)] [opt, sec] → Q (.ref e) { s with heap := h', toks := tk }),
    wpAny (model PySem.Challenge.rw_dm0028_07.prog w) (AD 600 2000) (call (.ref 118) [opt, sec]) Q E s := by
  w_top off
  k_fill
  intro p loose mean mg mb w s opt sec ro R0 rs R1 Q E KX T hQ
  obtain ⟨hh, g, dr, tk, os⟩ := s
  dsimp only at KX T R0 R1 hQ
  have lq0 : (Str.ofString "No option ").length ≤ 200 := Nat.le_of_ble_eq_true rfl
  have lq1 : (Str.ofString " in section: ").length ≤ 200 := Nat.le_of_ble_eq_true rfl
  have O0 := R0.old
  have sq0 := R0.short
  have O1 := R1.old
  have sq1 := R1.short
  w_strict (
  refine wpAny_call ?_
  refine exc_make (KX 118 _ (by k_is)) (by decide +kernel) (by decide +kernel) (by decide +kernel) (looks_specialIn KX (by k_is)) (looks_instIn KX (by k_is)) (looks_findIn KX (by k_is)) (fun self => bind_fn KX self (by k_is)) (by size_fits) ?_
  k_dflt (refine' enter_new (h₀ := hh) (binds := [("self", .ref (hh.objs.size + 1)), ("option", opt), ("section", sec)]) (news := [(hh.objs.size + 1, excObj 118 none hh.objs.size), (hh.objs.size, tupObj [opt, sec])]) ?k1 ?k2 KX T.nolimit ?k9 ?k5 ?k6 ?k7 ?k8 ?kB ?c2 ?c3 ?c4 ?c5 ?_; (case k5 => k_is); (case k6 => k_is); (case k7 => exact Nat.le_of_ble_eq_true rfl); (case k8 => first | exact BindsTo.of_eq rfl | exact binds_K (Frag.In.keeps KX (made_grow _ _ _)) rfl (by k_is) rfl rfl rfl); (case c5 => decide); (case kB => exact locs rfl); (case c2 => exact rfl); (case c3 => exact rfl); (case c4 => exact rfl); (case k1 => exact made_grow _ _ _); (case k2 => (simp; omega)); (case k9 => exact made_news _ _ _))
  intro L' h' tk' F' N' l1; k_lt l1
  walk_at "mine texts"
  k_steps
  refine ⟨rfl, ?_⟩
  (with_reducible rename Fr _ _ _ _ => Fz)
  (with_reducible rename News _ _ _ _ => Nz)
  refine hQ _ _ _ _ _ _ _ Fz.keep (err_close Nz (by k_mem) (by k_mem) (by k_mem) (Eq.trans (lookIn_dict _ _ _) (by k_get)) ?_)
  intro q hq
  simp only [List.mem_cons, List.not_mem_nil, or_false] at hq
  rcases hq with rfl | rfl <;> kernel_rfl)
end
section
theorem layKc07b1 : True := by
  k_with_none
  k_with "ne" => (with_reducible (first | exact ns1 | exact ns2 | exact qlt (by assumption) | exact qgt (by assumption) | exact qne (by assumption) | exact qen (by assumption) | exact rlt (by assumption) | exact rgt (by assumption) | exact rne (by assumption) | exact ren (by assumption) | exact qlt (And.right (by assumption)) | exact qgt (And.right (by assumption)) | exact qne (And.right (by assumption)) | exact qen (And.right (by assumption)) | exact rlt (And.right (by assumption)) | exact rgt (And.right (by assumption)) | exact rne (And.right (by assumption)) | exact ren (And.right (by assumption)) | exact qlt (And.right (And.right (by assumption))) | exact qgt (And.right (And.right (by assumption))) | exact qne (And.right (And.right (by assumption))) | exact qen (And.right (And.right (by assumption))) | exact rlt (And.right (And.right (by assumption))) | exact rgt (And.right (And.right (by assumption))) | exact rne (And.right (And.right (by assumption))) | exact ren (And.right (And.right (by assumption))) | exact qlt (And.right (And.right (And.right (by assumption)))) | exact qgt (And.right (And.right (And.right (by assumption)))) | exact qne (And.right (And.right (And.right (by assumption)))) | exact qen (And.right (And.right (And.right (by assumption)))) | exact rlt (And.right (And.right (And.right (by assumption)))) | exact rgt (And.right (And.right (And.right (by assumption)))) | exact rne (And.right (And.right (And.right (by assumption)))) | exact ren (And.right (And.right (And.right (by assumption)))) | exact qlt (And.right (And.right (And.right (And.right (by assumption))))) | exact qgt (And.right (And.right (And.right (And.right (by assumption))))) | exact qne (And.right (And.right (And.right (And.right (by assumption))))) | exact qen (And.right (And.right (And.right (And.right (by assumption))))) | exact rlt (And.right (And.right (And.right (And.right (by assumption))))) | exact rgt (And.right (And.right (And.right (And.right (by assumption))))) | exact rne (And.right (And.right (And.right (And.right (by assumption))))) | exact ren (And.right (And.right (And.right (And.right (by assumption))))) | exact qlt (And.right (And.right (And.right (And.right (And.right (by assumption)))))) | exact qgt (And.right (And.right (And.right (And.right (And.right (by assumption)))))) | exact qne (And.right (And.right (And.right (And.right (And.right (by assumption)))))) | exact qen (And.right (And.right (And.right (And.right (And.right (by assumption)))))) | exact rlt (And.right (And.right (And.right (And.right (And.right (by assumption)))))) | exact rgt (And.right (And.right (And.right (And.right (And.right (by assumption)))))) | exact rne (And.right (And.right (And.right (And.right (And.right (by assumption)))))) | exact ren (And.right (And.right (And.right (And.right (And.right (by assumption)))))) | exact qlt (And.right (And.right (And.right (And.right (And.right (And.right (by assumption))))))) | exact qgt (And.right (And.right (And.right (And.right (And.right (And.right (by assumption))))))) | exact qne (And.right (And.right (And.right (And.right (And.right (And.right (by assumption))))))) | exact qen (And.right (And.right (And.right (And.right (And.right (And.right (by assumption))))))) | exact rlt (And.right (And.right (And.right (And.right (And.right (And.right (by assumption))))))) | exact rgt (And.right (And.right (And.right (And.right (And.right (And.right (by assumption))))))) | exact rne (And.right (And.right (And.right (And.right (And.right (And.right (by assumption))))))) | exact ren (And.right (And.right (And.right (And.right (And.right (And.right (by assumption))))))) | exact qlt (And.right (And.right (And.right (And.right (And.right (And.right (And.right (by assumption)))))))) | exact qgt (And.right (And.right (And.right (And.right (And.right (And.right (And.right (by assumption)))))))) | exact qne (And.right (And.right (And.right (And.right (And.right (And.right (And.right (by assumption)))))))) | exact qen (And.right (And.right (And.right (And.right (And.right (And.right (And.right (by assumption)))))))) | exact rlt (And.right (And.right (And.right (And.right (And.right (And.right (And.right (by assumption)))))))) | exact rgt (And.right (And.right (And.right (And.right (And.right (And.right (And.right (by assumption)))))))) | exact rne (And.right (And.right (And.right (And.right (And.right (And.right (And.right (by assumption)))))))) | exact ren (And.right (And.right (And.right (And.right (And.right (And.right (And.right (by assumption)))))))) | exact qlt (And.right (And.right (And.right (And.right (And.right (And.right (And.right (And.right (by assumption))))))))) | exact qgt (And.right (And.right (And.right (And.right (And.right (And.right (And.right (And.right (by assumption))))))))) | exact qne (And.right (And.right (And.right (And.right (And.right (And.right (And.right (And.right (by assumption))))))))) | exact qen (And.right (And.right (And.right (And.right (And.right (And.right (And.right (And.right (by assumption))))))))) | exact rlt (And.right (And.right (And.right (And.right (And.right (And.right (And.right (And.right (by assumption))))))))) | exact rgt (And.right (And.right (And.right (And.right (And.right (And.right (And.right (And.right (by assumption))))))))) | exact rne (And.right (And.right (And.right (And.right (And.right (And.right (And.right (And.right (by assumption))))))))) | exact ren (And.right (And.right (And.right (And.right (And.right (And.right (And.right (And.right (by assumption))))))))) | exact qlt (And.right (And.right (And.right (And.right (And.right (And.right (And.right (And.right (And.right (by assumption)))))))))) | exact qgt (And.right (And.right (And.right (And.right (And.right (And.right (And.right (And.right (And.right (by assumption)))))))))) | exact qne (And.right (And.right (And.right (And.right (And.right (And.right (And.right (And.right (And.right (by assumption)))))))))) | exact qen (And.right (And.right (And.right (And.right (And.right (And.right (And.right (And.right (And.right (by assumption)))))))))) | exact rlt (And.right (And.right (And.right (And.right (And.right (And.right (And.right (And.right (And.right (by assumption)))))))))) | exact rgt (And.right (And.right (And.right (And.right (And.right (And.right (And.right (And.right (And.right (by assumption)))))))))) | exact rne (And.right (And.right (And.right (And.right (And.right (And.right (And.right (And.right (And.right (by assumption)))))))))) | exact ren (And.right (And.right (And.right (And.right (And.right (And.right (And.right (And.right (And.right (by assumption)))))))))) | exact qlt (And.right (And.right (And.right (And.right (And.right (And.right (And.right (And.right (And.right (And.right (by assumption))))))))))) | exact qgt (And.right (And.right (And.right (And.right (And.right (And.right (And.right (And.right (And.right (And.right (by assumption))))))))))) | exact qne (And.right (And.right (And.right (And.right (And.right (And.right (And.right (And.right (And.right (And.right (by assumption))))))))))) | exact qen (And.right (And.right (And.right (And.right (And.right (And.right (And.right (And.right (And.right (And.right (by assumption))))))))))) | exact rlt (And.right (And.right (And.right (And.right (And.right (And.right (And.right (And.right (And.right (And.right (by assumption))))))))))) | exact rgt (And.right (And.right (And.right (And.right (And.right (And.right (And.right (And.right (And.right (And.right (by assumption))))))))))) | exact rne (And.right (And.right (And.right (And.right (And.right (And.right (And.right (And.right (And.right (And.right (by assumption))))))))))) | exact ren (And.right (And.right (And.right (And.right (And.right (And.right (And.right (And.right (And.right (And.right (by assumption))))))))))) | exact qlt (And.right (And.right (And.right (And.right (And.right (And.right (And.right (And.right (And.right (And.right (And.right (by assumption)))))))))))) | exact qgt (And.right (And.right (And.right (And.right (And.right (And.right (And.right (And.right (And.right (And.right (And.right (by assumption)))))))))))) | exact qne (And.right (And.right (And.right (And.right (And.right (And.right (And.right (And.right (And.right (And.right (And.right (by assumption)))))))))))) | exact qen (And.right (And.right (And.right (And.right (And.right (And.right (And.right (And.right (And.right (And.right (And.right (by assumption)))))))))))) | exact rlt (And.right (And.right (And.right (And.right (And.right (And.right (And.right (And.right (And.right (And.right (And.right (by assumption)))))))))))) | exact rgt (And.right (And.right (And.right (And.right (And.right (And.right (And.right (And.right (And.right (And.right (And.right (by assumption)))))))))))) | exact rne (And.right (And.right (And.right (And.right (And.right (And.right (And.right (And.right (And.right (And.right (And.right (by assumption)))))))))))) | exact ren (And.right (And.right (And.right (And.right (And.right (And.right (And.right (And.right (And.right (And.right (And.right (by assumption)))))))))))) | exact qlt (And.right (And.right (And.right (And.right (And.right (And.right (And.right (And.right (And.right (And.right (And.right (And.right (by assumption))))))))))))) | exact qgt (And.right (And.right (And.right (And.right (And.right (And.right (And.right (And.right (And.right (And.right (And.right (And.right (by assumption))))))))))))) | exact qne (And.right (And.right (And.right (And.right (And.right (And.right (And.right (And.right (And.right (And.right (And.right (And.right (by assumption))))))))))))) | exact qen (And.right (And.right (And.right (And.right (And.right (And.right (And.right (And.right (And.right (And.right (And.right (And.right (by assumption))))))))))))) | exact rlt (And.right (And.right (And.right (And.right (And.right (And.right (And.right (And.right (And.right (And.right (And.right (And.right (by assumption))))))))))))) | exact rgt (And.right (And.right (And.right (And.right (And.right (And.right (And.right (And.right (And.right (And.right (And.right (And.right (by assumption))))))))))))) | exact rne (And.right (And.right (And.right (And.right (And.right (And.right (And.right (And.right (And.right (And.right (And.right (And.right (by assumption))))))))))))) | exact ren (And.right (And.right (And.right (And.right (And.right (And.right (And.right (And.right (And.right (And.right (And.right (And.right (by assumption))))))))))))) | exact qlt (And.right (And.right (And.right (And.right (And.right (And.right (And.right (And.right (And.right (And.right (And.right (And.right (And.right (by assumption)))))))))))))) | exact qgt (And.right (And.right (And.right (And.right (And.right (And.right (And.right (And.right (And.right (And.right (And.right (And.right (And.right (by assumption)))))))))))))) | exact qne (And.right (And.right (And.right (And.right (And.right (And.right (And.right (And.right (And.right (And.right (And.right (And.right (And.right (by assumption)))))))))))))) | exact qen (And.right (And.right (And.right (And.right (And.right (And.right (And.right (And.right (And.right (And.right (And.right (And.right (And.right (by assumption)))))))))))))) | exact rlt (And.right (And.right (And.right (And.right (And.right (And.right (And.right (And.right (And.right (And.right (And.right (And.right (And.right (by assumption)))))))))))))) | exact rgt (And.right (And.right (And.right (And.right (And.right (And.right (And.right (And.right (And.right (And.right (And.right (And.right (And.right (by assumption)))))))))))))) | exact rne (And.right (And.right (And.right (And.right (And.right (And.right (And.right (And.right (And.right (And.right (And.right (And.right (And.right (by assumption)))))))))))))) | exact ren (And.right (And.right (And.right (And.right (And.right (And.right (And.right (And.right (And.right (And.right (And.right (And.right (And.right (by assumption)))))))))))))) | exact qlt (And.right (And.right (And.right (And.right (And.right (And.right (And.right (And.right (And.right (And.right (And.right (And.right (And.right (And.right (by assumption))))))))))))))) | exact qgt (And.right (And.right (And.right (And.right (And.right (And.right (And.right (And.right (And.right (And.right (And.right (And.right (And.right (And.right (by assumption))))))))))))))) | exact qne (And.right (And.right (And.right (And.right (And.right (And.right (And.right (And.right (And.right (And.right (And.right (And.right (And.right (And.right (by assumption))))))))))))))) | exact qen (And.right (And.right (And.right (And.right (And.right (And.right (And.right (And.right (And.right (And.right (And.right (And.right (And.right (And.right (by assumption))))))))))))))) | exact rlt (And.right (And.right (And.right (And.right (And.right (And.right (And.right (And.right (And.right (And.right (And.right (And.right (And.right (And.right (by assumption))))))))))))))) | exact rgt (And.right (And.right (And.right (And.right (And.right (And.right (And.right (And.right (And.right (And.right (And.right (And.right (And.right (And.right (by assumption))))))))))))))) | exact rne (And.right (And.right (And.right (And.right (And.right (And.right (And.right (And.right (And.right (And.right (And.right (And.right (And.right (And.right (by assumption))))))))))))))) | exact ren (And.right (And.right (And.right (And.right (And.right (And.right (And.right (And.right (And.right (And.right (And.right (And.right (And.right (And.right (by assumption))))))))))))))) | exact qlt (And.right (And.right (And.right (And.right (And.right (And.right (And.right (And.right (And.right (And.right (And.right (And.right (And.right (And.right (And.right (by assumption)))))))))))))))) | exact qgt (And.right (And.right (And.right (And.right (And.right (And.right (And.right (And.right (And.right (And.right (And.right (And.right (And.right (And.right (And.right (by assumption)))))))))))))))) | exact qne (And.right (And.right (And.right (And.right (And.right (And.right (And.right (And.right (And.right (And.right (And.right (And.right (And.right (And.right (And.right (by assumption)))))))))))))))) | exact qen (And.right (And.right (And.right (And.right (And.right (And.right (And.right (And.right (And.right (And.right (And.right (And.right (And.right (And.right (And.right (by assumption)))))))))))))))) | exact rlt (And.right (And.right (And.right (And.right (And.right (And.right (And.right (And.right (And.right (And.right (And.right (And.right (And.right (And.right (And.right (by assumption)))))))))))))))) | exact rgt (And.right (And.right (And.right (And.right (And.right (And.right (And.right (And.right (And.right (And.right (And.right (And.right (And.right (And.right (And.right (by assumption)))))))))))))))) | exact rne (And.right (And.right (And.right (And.right (And.right (And.right (And.right (And.right (And.right (And.right (And.right (And.right (And.right (And.right (And.right (by assumption)))))))))))))))) | exact ren (And.right (And.right (And.right (And.right (And.right (And.right (And.right (And.right (And.right (And.right (And.right (And.right (And.right (And.right (And.right (by assumption))))))))))))))))))
  trivial
theorem layKc07b2 : True := by
  k_with "mine texts" => ((try dsimp only [← sx0, ← sx1, ← sx2, ← sx3, ← sx4, ← sx5, ← sx6, ← sx7, ← sx8, ← sx9, ← sx10, ← sx11, ← sx12, ← sx13, ← sx14, ← sx15, ← sx16, ← sx17, ← sx18, ← sx19, ← sx20, ← sx21, ← sx22, ← sx23, ← sx24, ← sx25, ← sx26, ← sx27, ← sx28, ← sx29, ← sx30, ← sx31, ← sx32, ← sx33, ← sx34, ← sx35, ← sx36, ← sx37, ← sx38, ← sx39, ← sx40, ← sx41, ← sx42, ← sx43, ← sx44, ← sx45, ← sx46, ← sx47, ← sx48, ← sx49, ← sx50, ← sx51, ← sx52, ← sx53, ← sx54, ← sx55, ← sx56, ← sx57, ← sx58, ← sx59, ← sx60, ← sx61, ← sx62, ← sx63, ← sx64, ← sx65, ← sx66, ← sx67, ← sx68, ← sx69, ← sx70, ← sx71, ← sx72, ← sx73, ← sx74, ← sx75, ← sx76, ← sx77, ← sx78, ← sx79, ← sx80, ← sx81, ← sx82, ← sx83, ← sx84, ← sx85, ← sx86, ← sx87, ← sx88, ← sx89, ← sx90, ← sx91, ← sx92, ← sx93, ← sx94, ← sx95, ← sx96, ← sx97, ← sx98, ← sx99, ← sx100, ← sx101, ← sx102, ← sx103, ← sx104, ← sx105, ← sx106, ← sx107, ← sx108, ← sx109]))
  k_with "mine drop" => (first | (refine' Drop.head ?a; (case a => k_all)) | (refine' Drop.tail ?a ?b; (case a => k_ne); (case b => walk_at "mine drop")))
  k_with "setAttr ref" => ((k_here; k_dflt (first | (refine' exc_set0 ?k1 ?k2 ?k3 ?k4 ?k5 ?k6 ?k7 ?k8 ?k9 ?_; (case k1 => k_asm); (case k2 => k_asm); (case k3 => k_asm); (case k4 => k_mem); (case k5 => k_is); (case k6 => kernel_rfl); (case k7 => k_is); (case k8 => k_is); (case k9 => intro zqd; k_upd); k_whole; intro zqdp zqhp zqFp zqNp zql1; (try k_lt zql1)) | (refine' exc_set_args ?k1 ?k2 ?k3 ?k4 ?k5 ?k6 ?k7 ?k8 ?k9 ?k10 ?_; (case k1 => k_asm); (case k2 => k_asm); (case k3 => k_asm); (case k4 => first | (refine' InstAt.of_exc ?N ?h1 ?h2; (case N => k_asm); (case h1 => k_mem); (case h2 => k_mem)) | (refine' InstAt.of_exc0 ?N ?h1; (case N => k_asm); (case h1 => k_mem))); (case k5 => exact isTup_of (by k_asm) (by k_mem)); (case k6 => k_is); (case k7 => kernel_rfl); (case k8 => k_is); (case k9 => k_is); (case k10 => k_upd); k_whole; intro zqhp zqFp zqNp) | (refine' exc_set ?k1 ?k2 ?k3 ?k4 ?k5 ?k6 ?k7 ?k8 ?k9 ?k10 ?k11 ?k12 ?_; (case k1 => k_asm); (case k2 => k_asm); (case k3 => k_asm); (case k4 => first | (refine' InstAt.of_exc ?N ?h1 ?h2; (case N => k_asm); (case h1 => k_mem); (case h2 => k_mem)) | (refine' InstAt.of_exc0 ?N ?h1; (case N => k_asm); (case h1 => k_mem))); (case k5 => k_is); (case k6 => kernel_rfl); (case k7 => k_is); (case k8 => k_is); (case k9 => k_get); (case k10 => k_put); (case k11 => k_upd); (case k12 => exact Nat.le_of_ble_eq_true rfl); k_whole; intro zqhp zqFp zqNp))))
  k_with "call builtin:Exception.__init__" => ((k_here; k_dflt (refine' exc_init_call ?k1 ?k2 ?k3 ?k4 ?k5 ?k6 ?_; (case k1 => k_asm); (case k2 => k_asm); (case k3 => k_asm); (case k4 => first | (refine' InstAt.of_exc ?N ?h1 ?h2; (case N => k_asm); (case h1 => k_mem); (case h2 => k_mem)) | (refine' InstAt.of_exc0 ?N ?h1; (case N => k_asm); (case h1 => k_mem))); (case k5 => k_is); (case k6 => intro zqt; k_upd); k_whole; intro zqtp zqhp zqFp zqNp zql1; (try k_lt zql1))))
  k_with "call builtin:repr" => ((k_here; k_dflt (refine' repr_use ?k1 ?k2 ?k3 ?k4 ?k5 ?k6 ?k7 ?_; (case k1 => assumption); (case k2 => k_asm); (case k3 => k_asm); (case k4 => exact rfl); (case k5 => exact rfl); (case k6 => exact Nat.le_of_ble_eq_true rfl); (case k7 => exact Nat.le_of_ble_eq_true rfl); k_whole; intro zqhp zqup zqtkp zqFp zqNp)))
  k_with "BackIn" => ((k_dflt (refine' back_ ?k1 ?k2 ?k3 ?_; (case k1 => k_asm); (case k2 => k_asm); (case k3 => walk_at "mine drop"); k_whole; intro zqFp zqNp; (try dsimp only))))
  k_with "call ref" => ((k_here; k_dflt (refine wpAny_call ?_; refine' enter_in ?k1 ?k2 ?k3 ?k4 ?k5 ?k6 ?k7 ?k8 ?kB ?c2 ?c3 ?c4 ?c5 ?_; (case k1 => k_asm); (case k2 => k_asm); (case k3 => k_asm); (case k4 => exact Top.nolimit (by assumption)); (case k5 => k_is); (case k6 => k_is); (case k7 => exact Nat.le_of_ble_eq_true rfl); (case k8 => first | ((with_reducible show BindsTo _ _ ⟨[_], []⟩ _); first | exact BindsTo.of_eq (binds := [(_, _)]) rfl | exact binds_K (binds := [(_, _)]) (by k_in) rfl (by k_is) rfl rfl rfl) | ((with_reducible show BindsTo _ _ ⟨[_, _], []⟩ _); first | exact BindsTo.of_eq (binds := [(_, _), (_, _)]) rfl | exact binds_K (binds := [(_, _), (_, _)]) (by k_in) rfl (by k_is) rfl rfl rfl) | ((with_reducible show BindsTo _ _ ⟨[_, _, _], []⟩ _); first | exact BindsTo.of_eq (binds := [(_, _), (_, _), (_, _)]) rfl | exact binds_K (binds := [(_, _), (_, _), (_, _)]) (by k_in) rfl (by k_is) rfl rfl rfl) | ((with_reducible show BindsTo _ _ ⟨[_, _, _, _], []⟩ _); first | exact BindsTo.of_eq (binds := [(_, _), (_, _), (_, _), (_, _)]) rfl | exact binds_K (binds := [(_, _), (_, _), (_, _), (_, _)]) (by k_in) rfl (by k_is) rfl rfl rfl) | ((with_reducible show BindsTo _ _ ⟨[_, _, _, _, _], []⟩ _); first | exact BindsTo.of_eq (binds := [(_, _), (_, _), (_, _), (_, _), (_, _)]) rfl | exact binds_K (binds := [(_, _), (_, _), (_, _), (_, _), (_, _)]) (by k_in) rfl (by k_is) rfl rfl rfl)); (case c5 => decide); (case kB => exact locs rfl); (case c2 => exact rfl); (case c3 => exact rfl); (case c4 => exact rfl); k_whole; intro zqoLp zqLp zqhp zqtkp zqFp zqNp zql1 zqn1; (try k_lt zql1); (try (replace zqn1 := allNe_of zqn1; simp only [AllNe, and_true] at zqn1)); (try dsimp only); walk_at "mine texts")))
  k_with "call builtin:str.join" => ((k_here; (with_reducible show wpAny _ _ (call (Value.builtin "str.join") [Value.str _ _, Value.ref _]) _ _ _); k_dflt (refine join_listC (by is_list) (by repeat constructor) (by decide) (by (simp only [List.map_cons, List.map_nil, List.sum_cons, List.sum_nil, List.length_cons, List.length_nil]; omega)) ?_); intro zqtp zqkp))
  k_with "getMethod type:Exception" => ((k_here; refine' method_type ?F ?X ?m (by decide +kernel) ?e ?h ?_; (case F => k_asm); (case X => k_asm); (case m => exact meta_Exception); (case e => k_dflt k_is); (case h => k_handed)))
  k_with "compareOp IsNot" => ((k_here; k_dflt (refine isNot_none (by assumption) ?_)))
  k_with "call builtin:str.format" => ((k_here; k_dflt (refine' line_use ?k1 ?k2 ?k3 ?k4 ?k5 ?k6 ?k7 ?_; (case k1 => assumption); (case k2 => k_asm); (case k3 => k_asm); (case k4 => exact rfl); (case k5 => exact rfl); (case k6 => exact Nat.le_of_ble_eq_true rfl); (case k7 => exact Nat.le_of_ble_eq_true rfl); k_whole; intro zqhp zqup zqtkp zqFp zqNp)))
  k_with "call builtin:str.format" => ((k_here; (with_reducible show wpAny _ _ (call (Value.builtin "str.format") [Value.str _ _, _, _, _, _]) _ _ _); k_dflt (refine' fmt_use ?k1 ?k2 ?k3 ?k4 ?k5 ?_; (case k1 => k_asm); (case k2 => k_asm); (case k3 => exact ⟨rfl, rfl, Nat.le_of_ble_eq_true rfl, Nat.le_of_ble_eq_true rfl⟩); (case k4 => exact args_5 _ _ _ _ _); (case k5 => walk_at "mine fmt")); k_whole; intro zqhp zqup zqtkp zqFp zqNp))
  k_with "pyReprObj" => ((k_here; k_dflt (refine' reprObj_use ?k1 ?k2 ?k3 ?k4 ?k5 ?k6 ?k7 ?_; (case k1 => assumption); (case k2 => k_asm); (case k3 => k_asm); (case k4 => exact rfl); (case k5 => exact rfl); (case k6 => exact Nat.le_of_ble_eq_true rfl); (case k7 => exact Nat.le_of_ble_eq_true rfl); k_whole; intro zqhp zqup zqtkp zqFp zqNp)))
  k_with "call ref" => ((k_here; (with_reducible show wpAny _ _ (call (Value.ref 29) [Value.ref _, Value.str _ _]) _ _ _); k_dflt (refine' errIni ?k1 ?k2 ?k3 ?k4 ?k5 ?k6 ?k7 ?_; (case k1 => k_asm); (case k2 => k_asm); (case k3 => assumption); (case k4 => k_asm); (case k5 => k_updF); (case k6 => kernel_rfl); (case k7 => exact Nat.le_of_ble_eq_true rfl)); k_whole; intro zqdp zqtp zqhp zqtkp zqukp zqFp zqNp zql1 zql2 zql3; (try dsimp only at zqNp); (try k_lt zql1); (try k_lt zql2)))
  k_with "mine fmt" => (exact fmtM_meets (by assumption) (by assumption) (by assumption) (by assumption))
  trivial
theorem conIM : ∀ {p : Program} {loose : List Str} {mean : ExcName → Option Value} {mg mb : Str → Option Value} (w : World) (s : Shared) (opt sec raw ref : Value) (ro : Str) (R0 : Rep PySem.Challenge.rw_dm0028_07.prog w s.heap opt ro) (rs : Str) (R1 : Rep PySem.Challenge.rw_dm0028_07.prog w s.heap sec rs) (rf : Str) (R2 : Rep PySem.Challenge.rw_dm0028_07.prog w s.heap ref rf) (rw : Str) (R3 : Rep PySem.Challenge.rw_dm0028_07.prog w s.heap raw rw)
    (Q E : Value → Shared → Prop) (KX : (hz.heap_193 w.params).In s.heap) (T : Top p loose mean mg mb s.heap)
    (hQ : ∀ h' tk e d ta od u, Grow s.heap h' → ErrNew s.heap h' 156 e d ta od (Str.ofString "Bad value substitution: option " ++ ro ++ Str.ofString " in section " ++ rs ++ Str.ofString " contains an interpolation key " ++ rf ++ Str.ofString " which is not a valid option name. Raw value: " ++ rw) u [("option", opt), ("section", sec), ("reference", ref)] [opt, sec, raw, ref] → Q (.ref e) { s with heap := h', toks := tk }),
    wpAny (model PySem.Challenge.rw_dm0028_07.prog w) (AD 600 2000) (call (.ref 156) [opt, sec, raw, ref]) Q E s := by
  w_top off
  k_fill
  intro p loose mean mg mb w s opt sec raw ref ro R0 rs R1 rf R2 rw R3 Q E KX T hQ
  obtain ⟨hh, g, dr, tk, os⟩ := s
  dsimp only at KX T R0 R1 R2 R3 hQ
  have O0 := R0.old
  have sq0 := R0.short
  have O1 := R1.old
  have sq1 := R1.short
  have O2 := R2.old
  have sq2 := R2.short
  have O3 := R3.old
  have sq3 := R3.short
  w_strict (
  refine wpAny_call ?_
  refine exc_make (KX 156 _ (by k_is)) (by decide +kernel) (by decide +kernel) (by decide +kernel) (looks_specialIn KX (by k_is)) (looks_instIn KX (by k_is)) (looks_findIn KX (by k_is)) (fun self => bind_fn KX self (by k_is)) (by size_fits) ?_
  k_dflt (refine' enter_new (h₀ := hh) (binds := [("self", .ref (hh.objs.size + 1)), ("option", opt), ("section", sec), ("rawval", raw), ("reference", ref)]) (news := [(hh.objs.size + 1, excObj 156 none hh.objs.size), (hh.objs.size, tupObj [opt, sec, raw, ref])]) ?k1 ?k2 KX T.nolimit ?k9 ?k5 ?k6 ?k7 ?k8 ?kB ?c2 ?c3 ?c4 ?c5 ?_; (case k5 => k_is); (case k6 => k_is); (case k7 => exact Nat.le_of_ble_eq_true rfl); (case k8 => first | exact BindsTo.of_eq rfl | exact binds_K (Frag.In.keeps KX (made_grow _ _ _)) rfl (by k_is) rfl rfl rfl); (case c5 => decide); (case kB => exact locs rfl); (case c2 => exact rfl); (case c3 => exact rfl); (case c4 => exact rfl); (case k1 => exact made_grow _ _ _); (case k2 => (simp; omega)); (case k9 => exact made_news _ _ _))
  intro L' h' tk' F' N' l1; k_lt l1
  walk_at "mine texts"
  k_steps
  refine ⟨rfl, ?_⟩
  (with_reducible rename Fr _ _ _ _ => Fz)
  (with_reducible rename News _ _ _ _ => Nz)
  refine hQ _ _ _ _ _ _ _ Fz.keep (err_close Nz (by k_mem) (by k_mem) (by k_mem) (Eq.trans (lookIn_dict _ _ _) (by k_get)) ?_)
  intro q hq
  simp only [List.mem_cons, List.not_mem_nil, or_false] at hq
  rcases hq with rfl | rfl | rfl <;> kernel_rfl)
theorem layKc07b3 : True := by
  k_with "mine fmt" => (exact fmtD_meets (by assumption) (by assumption) (by assumption))
  trivial
theorem conID : ∀ {p : Program} {loose : List Str} {mean : ExcName → Option Value} {mg mb : Str → Option Value} (w : World) (s : Shared) (opt sec raw : Value) (ro : Str) (R0 : Rep PySem.Challenge.rw_dm0028_07.prog w s.heap opt ro) (rs : Str) (R1 : Rep PySem.Challenge.rw_dm0028_07.prog w s.heap sec rs) (rw : Str) (R2 : Rep PySem.Challenge.rw_dm0028_07.prog w s.heap raw rw)
    (Q E : Value → Shared → Prop) (KX : (hz.heap_193 w.params).In s.heap) (T : Top p loose mean mg mb s.heap)
    (hQ : ∀ h' tk e d ta od u, Grow s.heap h' → ErrNew s.heap h' 175 e d ta od (Str.ofString "Recursion limit exceeded in value substitution: option " ++ ro ++ Str.ofString " in section " ++ rs ++ Str.ofString " contains an interpolation key which cannot be substituted in " ++ Str.ofString "10" ++ Str.ofString " steps. Raw value: " ++ rw) u [("option", opt), ("section", sec)] [opt, sec, raw] → Q (.ref e) { s with heap := h', toks := tk }),
    wpAny (model PySem.Challenge.rw_dm0028_07.prog w) (AD 600 2000) (call (.ref 175) [opt, sec, raw]) Q E s := by
  w_top off
  k_fill
  intro p loose mean mg mb w s opt sec raw ro R0 rs R1 rw R2 Q E KX T hQ
  obtain ⟨hh, g, dr, tk, os⟩ := s
  dsimp only at KX T R0 R1 R2 hQ
  have O0 := R0.old
  have sq0 := R0.short
  have O1 := R1.old
  have sq1 := R1.short
  have O2 := R2.old
  have sq2 := R2.short
  w_strict (
  refine wpAny_call ?_
  refine exc_make (KX 175 _ (by k_is)) (by decide +kernel) (by decide +kernel) (by decide +kernel) (looks_specialIn KX (by k_is)) (looks_instIn KX (by k_is)) (looks_findIn KX (by k_is)) (fun self => bind_fn KX self (by k_is)) (by size_fits) ?_
  k_dflt (refine' enter_new (h₀ := hh) (binds := [("self", .ref (hh.objs.size + 1)), ("option", opt), ("section", sec), ("rawval", raw)]) (news := [(hh.objs.size + 1, excObj 175 none hh.objs.size), (hh.objs.size, tupObj [opt, sec, raw])]) ?k1 ?k2 KX T.nolimit ?k9 ?k5 ?k6 ?k7 ?k8 ?kB ?c2 ?c3 ?c4 ?c5 ?_; (case k5 => k_is); (case k6 => k_is); (case k7 => exact Nat.le_of_ble_eq_true rfl); (case k8 => first | exact BindsTo.of_eq rfl | exact binds_K (Frag.In.keeps KX (made_grow _ _ _)) rfl (by k_is) rfl rfl rfl); (case c5 => decide); (case kB => exact locs rfl); (case c2 => exact rfl); (case c3 => exact rfl); (case c4 => exact rfl); (case k1 => exact made_grow _ _ _); (case k2 => (simp; omega)); (case k9 => exact made_news _ _ _))
  intro L' h' tk' F' N' l1; k_lt l1
  walk_at "mine texts"
  k_steps
  refine ⟨rfl, ?_⟩
  (with_reducible rename Fr _ _ _ _ => Fz)
  (with_reducible rename News _ _ _ _ => Nz)
  refine hQ _ _ _ _ _ _ _ Fz.keep (err_close Nz (by k_mem) (by k_mem) (by k_mem) (Eq.trans (lookIn_dict _ _ _) (by k_get)) ?_)
  intro q hq
  simp only [List.mem_cons, List.not_mem_nil, or_false] at hq
  rcases hq with rfl | rfl <;> kernel_rfl)
end
section
theorem layKc07c1 : True := by
  k_with_none
  k_with "ne" => (with_reducible (first | exact ns1 | exact ns2 | exact qlt (by assumption) | exact qgt (by assumption) | exact qne (by assumption) | exact qen (by assumption) | exact rlt (by assumption) | exact rgt (by assumption) | exact rne (by assumption) | exact ren (by assumption) | exact qlt (And.right (by assumption)) | exact qgt (And.right (by assumption)) | exact qne (And.right (by assumption)) | exact qen (And.right (by assumption)) | exact rlt (And.right (by assumption)) | exact rgt (And.right (by assumption)) | exact rne (And.right (by assumption)) | exact ren (And.right (by assumption)) | exact qlt (And.right (And.right (by assumption))) | exact qgt (And.right (And.right (by assumption))) | exact qne (And.right (And.right (by assumption))) | exact qen (And.right (And.right (by assumption))) | exact rlt (And.right (And.right (by assumption))) | exact rgt (And.right (And.right (by assumption))) | exact rne (And.right (And.right (by assumption))) | exact ren (And.right (And.right (by assumption))) | exact qlt (And.right (And.right (And.right (by assumption)))) | exact qgt (And.right (And.right (And.right (by assumption)))) | exact qne (And.right (And.right (And.right (by assumption)))) | exact qen (And.right (And.right (And.right (by assumption)))) | exact rlt (And.right (And.right (And.right (by assumption)))) | exact rgt (And.right (And.right (And.right (by assumption)))) | exact rne (And.right (And.right (And.right (by assumption)))) | exact ren (And.right (And.right (And.right (by assumption)))) | exact qlt (And.right (And.right (And.right (And.right (by assumption))))) | exact qgt (And.right (And.right (And.right (And.right (by assumption))))) | exact qne (And.right (And.right (And.right (And.right (by assumption))))) | exact qen (And.right (And.right (And.right (And.right (by assumption))))) | exact rlt (And.right (And.right (And.right (And.right (by assumption))))) | exact rgt (And.right (And.right (And.right (And.right (by assumption))))) | exact rne (And.right (And.right (And.right (And.right (by assumption))))) | exact ren (And.right (And.right (And.right (And.right (by assumption))))) | exact qlt (And.right (And.right (And.right (And.right (And.right (by assumption)))))) | exact qgt (And.right (And.right (And.right (And.right (And.right (by assumption)))))) | exact qne (And.right (And.right (And.right (And.right (And.right (by assumption)))))) | exact qen (And.right (And.right (And.right (And.right (And.right (by assumption)))))) | exact rlt (And.right (And.right (And.right (And.right (And.right (by assumption)))))) | exact rgt (And.right (And.right (And.right (And.right (And.right (by assumption)))))) | exact rne (And.right (And.right (And.right (And.right (And.right (by assumption)))))) | exact ren (And.right (And.right (And.right (And.right (And.right (by assumption)))))) | exact qlt (And.right (And.right (And.right (And.right (And.right (And.right (by assumption))))))) | exact qgt (And.right (And.right (And.right (And.right (And.right (And.right (by assumption))))))) | exact qne (And.right (And.right (And.right (And.right (And.right (And.right (by assumption))))))) | exact qen (And.right (And.right (And.right (And.right (And.right (And.right (by assumption))))))) | exact rlt (And.right (And.right (And.right (And.right (And.right (And.right (by assumption))))))) | exact rgt (And.right (And.right (And.right (And.right (And.right (And.right (by assumption))))))) | exact rne (And.right (And.right (And.right (And.right (And.right (And.right (by assumption))))))) | exact ren (And.right (And.right (And.right (And.right (And.right (And.right (by assumption))))))) | exact qlt (And.right (And.right (And.right (And.right (And.right (And.right (And.right (by assumption)))))))) | exact qgt (And.right (And.right (And.right (And.right (And.right (And.right (And.right (by assumption)))))))) | exact qne (And.right (And.right (And.right (And.right (And.right (And.right (And.right (by assumption)))))))) | exact qen (And.right (And.right (And.right (And.right (And.right (And.right (And.right (by assumption)))))))) | exact rlt (And.right (And.right (And.right (And.right (And.right (And.right (And.right (by assumption)))))))) | exact rgt (And.right (And.right (And.right (And.right (And.right (And.right (And.right (by assumption)))))))) | exact rne (And.right (And.right (And.right (And.right (And.right (And.right (And.right (by assumption)))))))) | exact ren (And.right (And.right (And.right (And.right (And.right (And.right (And.right (by assumption)))))))) | exact qlt (And.right (And.right (And.right (And.right (And.right (And.right (And.right (And.right (by assumption))))))))) | exact qgt (And.right (And.right (And.right (And.right (And.right (And.right (And.right (And.right (by assumption))))))))) | exact qne (And.right (And.right (And.right (And.right (And.right (And.right (And.right (And.right (by assumption))))))))) | exact qen (And.right (And.right (And.right (And.right (And.right (And.right (And.right (And.right (by assumption))))))))) | exact rlt (And.right (And.right (And.right (And.right (And.right (And.right (And.right (And.right (by assumption))))))))) | exact rgt (And.right (And.right (And.right (And.right (And.right (And.right (And.right (And.right (by assumption))))))))) | exact rne (And.right (And.right (And.right (And.right (And.right (And.right (And.right (And.right (by assumption))))))))) | exact ren (And.right (And.right (And.right (And.right (And.right (And.right (And.right (And.right (by assumption))))))))) | exact qlt (And.right (And.right (And.right (And.right (And.right (And.right (And.right (And.right (And.right (by assumption)))))))))) | exact qgt (And.right (And.right (And.right (And.right (And.right (And.right (And.right (And.right (And.right (by assumption)))))))))) | exact qne (And.right (And.right (And.right (And.right (And.right (And.right (And.right (And.right (And.right (by assumption)))))))))) | exact qen (And.right (And.right (And.right (And.right (And.right (And.right (And.right (And.right (And.right (by assumption)))))))))) | exact rlt (And.right (And.right (And.right (And.right (And.right (And.right (And.right (And.right (And.right (by assumption)))))))))) | exact rgt (And.right (And.right (And.right (And.right (And.right (And.right (And.right (And.right (And.right (by assumption)))))))))) | exact rne (And.right (And.right (And.right (And.right (And.right (And.right (And.right (And.right (And.right (by assumption)))))))))) | exact ren (And.right (And.right (And.right (And.right (And.right (And.right (And.right (And.right (And.right (by assumption)))))))))) | exact qlt (And.right (And.right (And.right (And.right (And.right (And.right (And.right (And.right (And.right (And.right (by assumption))))))))))) | exact qgt (And.right (And.right (And.right (And.right (And.right (And.right (And.right (And.right (And.right (And.right (by assumption))))))))))) | exact qne (And.right (And.right (And.right (And.right (And.right (And.right (And.right (And.right (And.right (And.right (by assumption))))))))))) | exact qen (And.right (And.right (And.right (And.right (And.right (And.right (And.right (And.right (And.right (And.right (by assumption))))))))))) | exact rlt (And.right (And.right (And.right (And.right (And.right (And.right (And.right (And.right (And.right (And.right (by assumption))))))))))) | exact rgt (And.right (And.right (And.right (And.right (And.right (And.right (And.right (And.right (And.right (And.right (by assumption))))))))))) | exact rne (And.right (And.right (And.right (And.right (And.right (And.right (And.right (And.right (And.right (And.right (by assumption))))))))))) | exact ren (And.right (And.right (And.right (And.right (And.right (And.right (And.right (And.right (And.right (And.right (by assumption))))))))))) | exact qlt (And.right (And.right (And.right (And.right (And.right (And.right (And.right (And.right (And.right (And.right (And.right (by assumption)))))))))))) | exact qgt (And.right (And.right (And.right (And.right (And.right (And.right (And.right (And.right (And.right (And.right (And.right (by assumption)))))))))))) | exact qne (And.right (And.right (And.right (And.right (And.right (And.right (And.right (And.right (And.right (And.right (And.right (by assumption)))))))))))) | exact qen (And.right (And.right (And.right (And.right (And.right (And.right (And.right (And.right (And.right (And.right (And.right (by assumption)))))))))))) | exact rlt (And.right (And.right (And.right (And.right (And.right (And.right (And.right (And.right (And.right (And.right (And.right (by assumption)))))))))))) | exact rgt (And.right (And.right (And.right (And.right (And.right (And.right (And.right (And.right (And.right (And.right (And.right (by assumption)))))))))))) | exact rne (And.right (And.right (And.right (And.right (And.right (And.right (And.right (And.right (And.right (And.right (And.right (by assumption)))))))))))) | exact ren (And.right (And.right (And.right (And.right (And.right (And.right (And.right (And.right (And.right (And.right (And.right (by assumption)))))))))))) | exact qlt (And.right (And.right (And.right (And.right (And.right (And.right (And.right (And.right (And.right (And.right (And.right (And.right (by assumption))))))))))))) | exact qgt (And.right (And.right (And.right (And.right (And.right (And.right (And.right (And.right (And.right (And.right (And.right (And.right (by assumption))))))))))))) | exact qne (And.right (And.right (And.right (And.right (And.right (And.right (And.right (And.right (And.right (And.right (And.right (And.right (by assumption))))))))))))) | exact qen (And.right (And.right (And.right (And.right (And.right (And.right (And.right (And.right (And.right (And.right (And.right (And.right (by assumption))))))))))))) | exact rlt (And.right (And.right (And.right (And.right (And.right (And.right (And.right (And.right (And.right (And.right (And.right (And.right (by assumption))))))))))))) | exact rgt (And.right (And.right (And.right (And.right (And.right (And.right (And.right (And.right (And.right (And.right (And.right (And.right (by assumption))))))))))))) | exact rne (And.right (And.right (And.right (And.right (And.right (And.right (And.right (And.right (And.right (And.right (And.right (And.right (by assumption))))))))))))) | exact ren (And.right (And.right (And.right (And.right (And.right (And.right (And.right (And.right (And.right (And.right (And.right (And.right (by assumption))))))))))))) | exact qlt (And.right (And.right (And.right (And.right (And.right (And.right (And.right (And.right (And.right (And.right (And.right (And.right (And.right (by assumption)))))))))))))) | exact qgt (And.right (And.right (And.right (And.right (And.right (And.right (And.right (And.right (And.right (And.right (And.right (And.right (And.right (by assumption)))))))))))))) | exact qne (And.right (And.right (And.right (And.right (And.right (And.right (And.right (And.right (And.right (And.right (And.right (And.right (And.right (by assumption)))))))))))))) | exact qen (And.right (And.right (And.right (And.right (And.right (And.right (And.right (And.right (And.right (And.right (And.right (And.right (And.right (by assumption)))))))))))))) | exact rlt (And.right (And.right (And.right (And.right (And.right (And.right (And.right (And.right (And.right (And.right (And.right (And.right (And.right (by assumption)))))))))))))) | exact rgt (And.right (And.right (And.right (And.right (And.right (And.right (And.right (And.right (And.right (And.right (And.right (And.right (And.right (by assumption)))))))))))))) | exact rne (And.right (And.right (And.right (And.right (And.right (And.right (And.right (And.right (And.right (And.right (And.right (And.right (And.right (by assumption)))))))))))))) | exact ren (And.right (And.right (And.right (And.right (And.right (And.right (And.right (And.right (And.right (And.right (And.right (And.right (And.right (by assumption)))))))))))))) | exact qlt (And.right (And.right (And.right (And.right (And.right (And.right (And.right (And.right (And.right (And.right (And.right (And.right (And.right (And.right (by assumption))))))))))))))) | exact qgt (And.right (And.right (And.right (And.right (And.right (And.right (And.right (And.right (And.right (And.right (And.right (And.right (And.right (And.right (by assumption))))))))))))))) | exact qne (And.right (And.right (And.right (And.right (And.right (And.right (And.right (And.right (And.right (And.right (And.right (And.right (And.right (And.right (by assumption))))))))))))))) | exact qen (And.right (And.right (And.right (And.right (And.right (And.right (And.right (And.right (And.right (And.right (And.right (And.right (And.right (And.right (by assumption))))))))))))))) | exact rlt (And.right (And.right (And.right (And.right (And.right (And.right (And.right (And.right (And.right (And.right (And.right (And.right (And.right (And.right (by assumption))))))))))))))) | exact rgt (And.right (And.right (And.right (And.right (And.right (And.right (And.right (And.right (And.right (And.right (And.right (And.right (And.right (And.right (by assumption))))))))))))))) | exact rne (And.right (And.right (And.right (And.right (And.right (And.right (And.right (And.right (And.right (And.right (And.right (And.right (And.right (And.right (by assumption))))))))))))))) | exact ren (And.right (And.right (And.right (And.right (And.right (And.right (And.right (And.right (And.right (And.right (And.right (And.right (And.right (And.right (by assumption))))))))))))))) | exact qlt (And.right (And.right (And.right (And.right (And.right (And.right (And.right (And.right (And.right (And.right (And.right (And.right (And.right (And.right (And.right (by assumption)))))))))))))))) | exact qgt (And.right (And.right (And.right (And.right (And.right (And.right (And.right (And.right (And.right (And.right (And.right (And.right (And.right (And.right (And.right (by assumption)))))))))))))))) | exact qne (And.right (And.right (And.right (And.right (And.right (And.right (And.right (And.right (And.right (And.right (And.right (And.right (And.right (And.right (And.right (by assumption)))))))))))))))) | exact qen (And.right (And.right (And.right (And.right (And.right (And.right (And.right (And.right (And.right (And.right (And.right (And.right (And.right (And.right (And.right (by assumption)))))))))))))))) | exact rlt (And.right (And.right (And.right (And.right (And.right (And.right (And.right (And.right (And.right (And.right (And.right (And.right (And.right (And.right (And.right (by assumption)))))))))))))))) | exact rgt (And.right (And.right (And.right (And.right (And.right (And.right (And.right (And.right (And.right (And.right (And.right (And.right (And.right (And.right (And.right (by assumption)))))))))))))))) | exact rne (And.right (And.right (And.right (And.right (And.right (And.right (And.right (And.right (And.right (And.right (And.right (And.right (And.right (And.right (And.right (by assumption)))))))))))))))) | exact ren (And.right (And.right (And.right (And.right (And.right (And.right (And.right (And.right (And.right (And.right (And.right (And.right (And.right (And.right (And.right (by assumption))))))))))))))))))
  trivial
theorem layKc07c2 : True := by
  k_with "mine texts" => ((try dsimp only [← sx0, ← sx1, ← sx2, ← sx3, ← sx4, ← sx5, ← sx6, ← sx7, ← sx8, ← sx9, ← sx10, ← sx11, ← sx12, ← sx13, ← sx14, ← sx15, ← sx16, ← sx17, ← sx18, ← sx19, ← sx20, ← sx21, ← sx22, ← sx23, ← sx24, ← sx25, ← sx26, ← sx27, ← sx28, ← sx29, ← sx30, ← sx31, ← sx32, ← sx33, ← sx34, ← sx35, ← sx36, ← sx37, ← sx38, ← sx39, ← sx40, ← sx41, ← sx42, ← sx43, ← sx44, ← sx45, ← sx46, ← sx47, ← sx48, ← sx49, ← sx50, ← sx51, ← sx52, ← sx53, ← sx54, ← sx55, ← sx56, ← sx57, ← sx58, ← sx59, ← sx60, ← sx61, ← sx62, ← sx63, ← sx64, ← sx65, ← sx66, ← sx67, ← sx68, ← sx69, ← sx70, ← sx71, ← sx72, ← sx73, ← sx74, ← sx75, ← sx76, ← sx77, ← sx78, ← sx79, ← sx80, ← sx81, ← sx82, ← sx83, ← sx84, ← sx85, ← sx86, ← sx87, ← sx88, ← sx89, ← sx90, ← sx91, ← sx92, ← sx93, ← sx94, ← sx95, ← sx96, ← sx97, ← sx98, ← sx99, ← sx100, ← sx101, ← sx102, ← sx103, ← sx104, ← sx105, ← sx106, ← sx107, ← sx108, ← sx109]))
  k_with "mine drop" => (first | (refine' Drop.head ?a; (case a => k_all)) | (refine' Drop.tail ?a ?b; (case a => k_ne); (case b => walk_at "mine drop")))
  k_with "setAttr ref" => ((k_here; k_dflt (first | (refine' exc_set0 ?k1 ?k2 ?k3 ?k4 ?k5 ?k6 ?k7 ?k8 ?k9 ?_; (case k1 => k_asm); (case k2 => k_asm); (case k3 => k_asm); (case k4 => k_mem); (case k5 => k_is); (case k6 => kernel_rfl); (case k7 => k_is); (case k8 => k_is); (case k9 => intro zqd; k_upd); k_whole; intro zqdp zqhp zqFp zqNp zql1; (try k_lt zql1)) | (refine' exc_set_args ?k1 ?k2 ?k3 ?k4 ?k5 ?k6 ?k7 ?k8 ?k9 ?k10 ?_; (case k1 => k_asm); (case k2 => k_asm); (case k3 => k_asm); (case k4 => first | (refine' InstAt.of_exc ?N ?h1 ?h2; (case N => k_asm); (case h1 => k_mem); (case h2 => k_mem)) | (refine' InstAt.of_exc0 ?N ?h1; (case N => k_asm); (case h1 => k_mem))); (case k5 => exact isTup_of (by k_asm) (by k_mem)); (case k6 => k_is); (case k7 => kernel_rfl); (case k8 => k_is); (case k9 => k_is); (case k10 => k_upd); k_whole; intro zqhp zqFp zqNp) | (refine' exc_set ?k1 ?k2 ?k3 ?k4 ?k5 ?k6 ?k7 ?k8 ?k9 ?k10 ?k11 ?k12 ?_; (case k1 => k_asm); (case k2 => k_asm); (case k3 => k_asm); (case k4 => first | (refine' InstAt.of_exc ?N ?h1 ?h2; (case N => k_asm); (case h1 => k_mem); (case h2 => k_mem)) | (refine' InstAt.of_exc0 ?N ?h1; (case N => k_asm); (case h1 => k_mem))); (case k5 => k_is); (case k6 => kernel_rfl); (case k7 => k_is); (case k8 => k_is); (case k9 => k_get); (case k10 => k_put); (case k11 => k_upd); (case k12 => exact Nat.le_of_ble_eq_true rfl); k_whole; intro zqhp zqFp zqNp))))
  k_with "call builtin:Exception.__init__" => ((k_here; k_dflt (refine' exc_init_call ?k1 ?k2 ?k3 ?k4 ?k5 ?k6 ?_; (case k1 => k_asm); (case k2 => k_asm); (case k3 => k_asm); (case k4 => first | (refine' InstAt.of_exc ?N ?h1 ?h2; (case N => k_asm); (case h1 => k_mem); (case h2 => k_mem)) | (refine' InstAt.of_exc0 ?N ?h1; (case N => k_asm); (case h1 => k_mem))); (case k5 => k_is); (case k6 => intro zqt; k_upd); k_whole; intro zqtp zqhp zqFp zqNp zql1; (try k_lt zql1))))
  k_with "call builtin:repr" => ((k_here; k_dflt (refine' repr_use ?k1 ?k2 ?k3 ?k4 ?k5 ?k6 ?k7 ?_; (case k1 => assumption); (case k2 => k_asm); (case k3 => k_asm); (case k4 => exact rfl); (case k5 => exact rfl); (case k6 => exact Nat.le_of_ble_eq_true rfl); (case k7 => exact Nat.le_of_ble_eq_true rfl); k_whole; intro zqhp zqup zqtkp zqFp zqNp)))
  k_with "BackIn" => ((k_dflt (refine' back_ ?k1 ?k2 ?k3 ?_; (case k1 => k_asm); (case k2 => k_asm); (case k3 => walk_at "mine drop"); k_whole; intro zqFp zqNp; (try dsimp only))))
  k_with "call ref" => ((k_here; k_dflt (refine wpAny_call ?_; refine' enter_in ?k1 ?k2 ?k3 ?k4 ?k5 ?k6 ?k7 ?k8 ?kB ?c2 ?c3 ?c4 ?c5 ?_; (case k1 => k_asm); (case k2 => k_asm); (case k3 => k_asm); (case k4 => exact Top.nolimit (by assumption)); (case k5 => k_is); (case k6 => k_is); (case k7 => exact Nat.le_of_ble_eq_true rfl); (case k8 => first | ((with_reducible show BindsTo _ _ ⟨[_], []⟩ _); first | exact BindsTo.of_eq (binds := [(_, _)]) rfl | exact binds_K (binds := [(_, _)]) (by k_in) rfl (by k_is) rfl rfl rfl) | ((with_reducible show BindsTo _ _ ⟨[_, _], []⟩ _); first | exact BindsTo.of_eq (binds := [(_, _), (_, _)]) rfl | exact binds_K (binds := [(_, _), (_, _)]) (by k_in) rfl (by k_is) rfl rfl rfl) | ((with_reducible show BindsTo _ _ ⟨[_, _, _], []⟩ _); first | exact BindsTo.of_eq (binds := [(_, _), (_, _), (_, _)]) rfl | exact binds_K (binds := [(_, _), (_, _), (_, _)]) (by k_in) rfl (by k_is) rfl rfl rfl) | ((with_reducible show BindsTo _ _ ⟨[_, _, _, _], []⟩ _); first | exact BindsTo.of_eq (binds := [(_, _), (_, _), (_, _), (_, _)]) rfl | exact binds_K (binds := [(_, _), (_, _), (_, _), (_, _)]) (by k_in) rfl (by k_is) rfl rfl rfl) | ((with_reducible show BindsTo _ _ ⟨[_, _, _, _, _], []⟩ _); first | exact BindsTo.of_eq (binds := [(_, _), (_, _), (_, _), (_, _), (_, _)]) rfl | exact binds_K (binds := [(_, _), (_, _), (_, _), (_, _), (_, _)]) (by k_in) rfl (by k_is) rfl rfl rfl)); (case c5 => decide); (case kB => exact locs rfl); (case c2 => exact rfl); (case c3 => exact rfl); (case c4 => exact rfl); k_whole; intro zqoLp zqLp zqhp zqtkp zqFp zqNp zql1 zqn1; (try k_lt zql1); (try (replace zqn1 := allNe_of zqn1; simp only [AllNe, and_true] at zqn1)); (try dsimp only); walk_at "mine texts")))
  k_with "call builtin:str.join" => ((k_here; (with_reducible show wpAny _ _ (call (Value.builtin "str.join") [Value.str _ _, Value.ref _]) _ _ _); k_dflt (refine join_listC (by is_list) (by repeat constructor) (by decide) (by (simp only [List.map_cons, List.map_nil, List.sum_cons, List.sum_nil, List.length_cons, List.length_nil]; omega)) ?_); intro zqtp zqkp))
  k_with "getMethod type:Exception" => ((k_here; refine' method_type ?F ?X ?m (by decide +kernel) ?e ?h ?_; (case F => k_asm); (case X => k_asm); (case m => exact meta_Exception); (case e => k_dflt k_is); (case h => k_handed)))
  k_with "compareOp IsNot" => ((k_here; k_dflt (refine isNot_none (by assumption) ?_)))
  k_with "call builtin:str.format" => ((k_here; k_dflt (refine' line_use ?k1 ?k2 ?k3 ?k4 ?k5 ?k6 ?k7 ?_; (case k1 => assumption); (case k2 => k_asm); (case k3 => k_asm); (case k4 => exact rfl); (case k5 => exact rfl); (case k6 => exact Nat.le_of_ble_eq_true rfl); (case k7 => exact Nat.le_of_ble_eq_true rfl); k_whole; intro zqhp zqup zqtkp zqFp zqNp)))
  k_with "call builtin:str.format" => ((k_here; (with_reducible show wpAny _ _ (call (Value.builtin "str.format") [Value.str _ _, _, _, _, _]) _ _ _); k_dflt (refine' fmt_use ?k1 ?k2 ?k3 ?k4 ?k5 ?_; (case k1 => k_asm); (case k2 => k_asm); (case k3 => exact ⟨rfl, rfl, Nat.le_of_ble_eq_true rfl, Nat.le_of_ble_eq_true rfl⟩); (case k4 => exact args_5 _ _ _ _ _); (case k5 => walk_at "mine fmt")); k_whole; intro zqhp zqup zqtkp zqFp zqNp))
  k_with "pyReprObj" => ((k_here; k_dflt (refine' reprObj_use ?k1 ?k2 ?k3 ?k4 ?k5 ?k6 ?k7 ?_; (case k1 => assumption); (case k2 => k_asm); (case k3 => k_asm); (case k4 => exact rfl); (case k5 => exact rfl); (case k6 => exact Nat.le_of_ble_eq_true rfl); (case k7 => exact Nat.le_of_ble_eq_true rfl); k_whole; intro zqhp zqup zqtkp zqFp zqNp)))
  k_with "call ref" => ((k_here; (with_reducible show wpAny _ _ (call (Value.ref 29) [Value.ref _, Value.str _ _]) _ _ _); k_dflt (refine' errIni ?k1 ?k2 ?k3 ?k4 ?k5 ?k6 ?k7 ?_; (case k1 => k_asm); (case k2 => k_asm); (case k3 => assumption); (case k4 => k_asm); (case k5 => k_updF); (case k6 => kernel_rfl); (case k7 => exact Nat.le_of_ble_eq_true rfl)); k_whole; intro zqdp zqtp zqhp zqtkp zqukp zqFp zqNp zql1 zql2 zql3; (try dsimp only at zqNp); (try k_lt zql1); (try k_lt zql2)))
  trivial
theorem conDSo : ∀ {p : Program} {loose : List Str} {mean : ExcName → Option Value} {mg mb : Str → Option Value} (w : World) (s : Shared) (sec src : Value) (hn : src ≠ .none) (rs : Str) (R0 : Rep PySem.Challenge.rw_dm0028_07.prog w s.heap sec rs) (rc : Str) (R1 : Rep PySem.Challenge.rw_dm0028_07.prog w s.heap src rc)
    (Q E : Value → Shared → Prop) (KX : (hz.heap_193 w.params).In s.heap) (T : Top p loose mean mg mb s.heap)
    (hQ : ∀ h' tk e d ta od u, Grow s.heap h' → ErrNew s.heap h' 79 e d ta od (Txt.join (Str.ofString "") [Str.ofString "While reading from ", rc, Str.ofString ": section ", rs, Str.ofString " already exists"]) u [("section", sec), ("source", src), ("lineno", .none)] [sec, src, .none] → Q (.ref e) { s with heap := h', toks := tk }),
    wpAny (model PySem.Challenge.rw_dm0028_07.prog w) (AD 600 2000) (call (.ref 79) [sec, src]) Q E s := by
  w_top off
  k_fill
  intro p loose mean mg mb w s sec src hn rs R0 rc R1 Q E KX T hQ
  obtain ⟨hh, g, dr, tk, os⟩ := s
  dsimp only at KX T R0 R1 hQ
  have lq0 : (Str.ofString "While reading from ").length ≤ 200 := Nat.le_of_ble_eq_true rfl
  have lq1 : (Str.ofString ": section ").length ≤ 200 := Nat.le_of_ble_eq_true rfl
  have lq2 : (Str.ofString "Section ").length ≤ 200 := Nat.le_of_ble_eq_true rfl
  have lq3 : (Str.ofString " in section ").length ≤ 200 := Nat.le_of_ble_eq_true rfl
  have lq4 : (Str.ofString " already exists").length ≤ 200 := Nat.le_of_ble_eq_true rfl
  have O0 := R0.old
  have sq0 := R0.short
  have O1 := R1.old
  have sq1 := R1.short
  w_strict (
  refine wpAny_call ?_
  refine exc_make (KX 79 _ (by k_is)) (by decide +kernel) (by decide +kernel) (by decide +kernel) (looks_specialIn KX (by k_is)) (looks_instIn KX (by k_is)) (looks_findIn KX (by k_is)) (fun self => bind_fn KX self (by k_is)) (by size_fits) ?_
  k_dflt (refine' enter_new (h₀ := hh) (binds := [("self", .ref (hh.objs.size + 1)), ("section", sec), ("source", src), ("lineno", .none)]) (news := [(hh.objs.size + 1, excObj 79 none hh.objs.size), (hh.objs.size, tupObj [sec, src])]) ?k1 ?k2 KX T.nolimit ?k9 ?k5 ?k6 ?k7 ?k8 ?kB ?c2 ?c3 ?c4 ?c5 ?_; (case k5 => k_is); (case k6 => k_is); (case k7 => exact Nat.le_of_ble_eq_true rfl); (case k8 => first | exact BindsTo.of_eq rfl | exact binds_K (Frag.In.keeps KX (made_grow _ _ _)) rfl (by k_is) rfl rfl rfl); (case c5 => decide); (case kB => exact locs rfl); (case c2 => exact rfl); (case c3 => exact rfl); (case c4 => exact rfl); (case k1 => exact made_grow _ _ _); (case k2 => (simp; omega)); (case k9 => exact made_news _ _ _))
  intro L' h' tk' F' N' l1; k_lt l1
  walk_at "mine texts"
  k_steps
  refine ⟨rfl, ?_⟩
  (with_reducible rename Fr _ _ _ _ => Fz)
  (with_reducible rename News _ _ _ _ => Nz)
  refine hQ _ _ _ _ _ _ _ Fz.keep (err_close Nz (by k_mem) (by k_mem) (by k_mem) (Eq.trans (lookIn_dict _ _ _) (by k_get)) ?_)
  intro q hq
  simp only [List.mem_cons, List.not_mem_nil, or_false] at hq
  rcases hq with rfl | rfl | rfl <;> kernel_rfl)
theorem conDOo : ∀ {p : Program} {loose : List Str} {mean : ExcName → Option Value} {mg mb : Str → Option Value} (w : World) (s : Shared) (sec opt src : Value) (hn : src ≠ .none) (rs : Str) (R0 : Rep PySem.Challenge.rw_dm0028_07.prog w s.heap sec rs) (ro : Str) (R1 : Rep PySem.Challenge.rw_dm0028_07.prog w s.heap opt ro) (rc : Str) (R2 : Rep PySem.Challenge.rw_dm0028_07.prog w s.heap src rc)
    (Q E : Value → Shared → Prop) (KX : (hz.heap_193 w.params).In s.heap) (T : Top p loose mean mg mb s.heap)
    (hQ : ∀ h' tk e d ta od u, Grow s.heap h' → ErrNew s.heap h' 99 e d ta od (Txt.join (Str.ofString "") [Str.ofString "While reading from ", rc, Str.ofString ": option ", ro, Str.ofString " in section ", rs, Str.ofString " already exists"]) u [("section", sec), ("option", opt), ("source", src), ("lineno", .none)] [sec, opt, src, .none] → Q (.ref e) { s with heap := h', toks := tk }),
    wpAny (model PySem.Challenge.rw_dm0028_07.prog w) (AD 600 2000) (call (.ref 99) [sec, opt, src]) Q E s := by
  w_top off
  k_fill
  intro p loose mean mg mb w s sec opt src hn rs R0 ro R1 rc R2 Q E KX T hQ
  obtain ⟨hh, g, dr, tk, os⟩ := s
  dsimp only at KX T R0 R1 R2 hQ
  have lq0 : (Str.ofString "While reading from ").length ≤ 200 := Nat.le_of_ble_eq_true rfl
  have lq1 : (Str.ofString ": option ").length ≤ 200 := Nat.le_of_ble_eq_true rfl
  have lq2 : (Str.ofString "Option ").length ≤ 200 := Nat.le_of_ble_eq_true rfl
  have lq3 : (Str.ofString " in section ").length ≤ 200 := Nat.le_of_ble_eq_true rfl
  have lq4 : (Str.ofString " already exists").length ≤ 200 := Nat.le_of_ble_eq_true rfl
  have O0 := R0.old
  have sq0 := R0.short
  have O1 := R1.old
  have sq1 := R1.short
  have O2 := R2.old
  have sq2 := R2.short
  w_strict (
  refine wpAny_call ?_
  refine exc_make (KX 99 _ (by k_is)) (by decide +kernel) (by decide +kernel) (by decide +kernel) (looks_specialIn KX (by k_is)) (looks_instIn KX (by k_is)) (looks_findIn KX (by k_is)) (fun self => bind_fn KX self (by k_is)) (by size_fits) ?_
  k_dflt (refine' enter_new (h₀ := hh) (binds := [("self", .ref (hh.objs.size + 1)), ("section", sec), ("option", opt), ("source", src), ("lineno", .none)]) (news := [(hh.objs.size + 1, excObj 99 none hh.objs.size), (hh.objs.size, tupObj [sec, opt, src])]) ?k1 ?k2 KX T.nolimit ?k9 ?k5 ?k6 ?k7 ?k8 ?kB ?c2 ?c3 ?c4 ?c5 ?_; (case k5 => k_is); (case k6 => k_is); (case k7 => exact Nat.le_of_ble_eq_true rfl); (case k8 => first | exact BindsTo.of_eq rfl | exact binds_K (Frag.In.keeps KX (made_grow _ _ _)) rfl (by k_is) rfl rfl rfl); (case c5 => decide); (case kB => exact locs rfl); (case c2 => exact rfl); (case c3 => exact rfl); (case c4 => exact rfl); (case k1 => exact made_grow _ _ _); (case k2 => (simp; omega)); (case k9 => exact made_news _ _ _))
  intro L' h' tk' F' N' l1; k_lt l1
  walk_at "mine texts"
  k_steps
  refine ⟨rfl, ?_⟩
  (with_reducible rename Fr _ _ _ _ => Fz)
  (with_reducible rename News _ _ _ _ => Nz)
  refine hQ _ _ _ _ _ _ _ Fz.keep (err_close Nz (by k_mem) (by k_mem) (by k_mem) (Eq.trans (lookIn_dict _ _ _) (by k_get)) ?_)
  intro q hq
  simp only [List.mem_cons, List.not_mem_nil, or_false] at hq
  rcases hq with rfl | rfl | rfl | rfl <;> kernel_rfl)
end
section
open PySem PySem.W PySem.Calls PyProof.Rows PySem.SeqAt
set_option Elab.async false
set_option maxRecDepth 100000
set_option maxHeartbeats 4000000
set_option linter.unusedVariables false
section
variable {prog : Program} {w : World} {A : Around} {E : PySem.Value → Shared → Prop} {s : Shared} {Q : PySem.Value → Shared → Prop}
theorem all_true7 (n : Nat) : (List.range n).all (fun _ => true) = true := List.all_eq_true.mpr fun _ _ => rfl
theorem eq_tup_same {b : Addr} {xs : List PySem.Value} (ho : s.heap.get? b = some (tupObj xs)) (hu : A.units < cLine) (q : Q (.bool true) s) : wpAny (model prog w) A (compareOp .Eq (.ref b) (.ref b)) Q E s := by
  have hT : s.heap.IsTuple b xs.toArray := ⟨_, ho, rfl, _, rfl⟩
  have := RcAt.tuples (A := A) (e := fun _ => true) hT hT hu fun j _ _ => EqAt.same _
  rw [all_true7, beq_self_eq_true, Bool.and_true] at this
  exact this prog w E Q q
theorem eq_tup_str {b : Addr} {xs : List PySem.Value} {x : PySem.Str} {u : Tok} (ho : s.heap.get? b = some (tupObj xs)) (hu : A.units < cLine) (q : Q (.bool false) s) : wpAny (model prog w) A (compareOp .Eq (.ref b) (.str x u)) Q E s :=
  RcAt.tuple_str x u ⟨_, ho, rfl, _, rfl⟩ hu prog w E Q q
end
end
section
open PySem PySem.W PySem.Calls PyProof.Rows
set_option Elab.async false
set_option maxRecDepth 100000
set_option maxHeartbeats 4000000
set_option linter.unusedVariables false
theorem ext7 {a b : PySem.Str} (h : a.cps.toList = b.cps.toList) : a = b := by
  cases a; cases b; simp at h; simp [h]
theorem cps7 (a b : PySem.Str) : (a ++ b).cps.toList = a.cps.toList ++ b.cps.toList := by simp [PySem.Str.cps_append]
def flds7 (k : Nat) (a b c : PySem.Value) : List (PySem.Str × PySem.Value) := match k with
  | 0 => [("section", a)]
  | 1 => [("option", a), ("section", b)]
  | 2 => [("section", a), ("source", b)]
  | 3 => [("section", a), ("option", b), ("source", c)]
  | 4 => [("option", a), ("section", b), ("reference", a)]
  | _ => [("option", a), ("section", b)]
def due7 (k : Nat) (a b c : PySem.Value) : List PySem.Value := match k with
  | 0 => [a]
  | 1 => [a, b]
  | 2 => [a, b, .none]
  | 3 => [a, b, c, .none]
  | 4 => [a, b, c, a]
  | _ => [a, b, c]
def cls7 (k : Nat) : Addr := match k with
  | 0 => 59
  | 1 => 118
  | 2 => 79
  | 3 => 99
  | 4 => 156
  | _ => 175
/-- an error of a kind, newly made -/
def Made7 (h h' : Heap) (k : Nat) (a b c : PySem.Value) (ta tb tc : PySem.Str) (e d t : Addr) (od : Obj) (u : Tok) : Prop := ErrNew h h' (cls7 k) e d t od (msg7 k ta tb tc) u (flds7 k a b c) (due7 k a b c)
theorem ErrNew.to7 {h0 h h' : Heap} {C e d t : Addr} {od : Obj} {msg msg' : PySem.Str} {u : Tok} {fs fs' : List (PySem.Str × PySem.Value)} {args : List PySem.Value} (n : ErrNew h h' C e d t od msg u fs args) (g : Grow h0 h) (hm : msg = msg') (hf : ∀ p ∈ fs', p ∈ fs) : ErrNew h0 h' C e d t od msg' u fs' args := by
  have hn : ∀ a, h.get? a = none → h0.get? a = none := fun a ha => by
    cases q : h0.get? a with
    | none => rfl
    | some o => have := g _ _ q; rw [ha] at this; cases this
  subst hm
  exact ⟨n.he, n.hd, n.ht, hn _ n.ne, hn _ n.nd, hn _ n.nt, n.hm, fun p hp => n.hf p (hf p hp)⟩
theorem m7_0 (ta tb tc : PySem.Str) : Str.ofString "No section: " ++ ta = msg7 0 ta tb tc := rfl
theorem m7_1 (ta tb tc : PySem.Str) : Str.ofString "No option " ++ ta ++ Str.ofString " in section: " ++ tb = msg7 1 ta tb tc := rfl
theorem m7_2 (ta tb tc : PySem.Str) : Txt.join (Str.ofString "") [Str.ofString "While reading from ", tb, Str.ofString ": section ", ta, Str.ofString " already exists"] = msg7 2 ta tb tc := by
  refine ext7 ?_
  show _ = (Str.ofString "While reading from " ++ tb ++ Str.ofString ": section " ++ ta ++ Str.ofString " already exists").cps.toList
  rw [txt_join]
  simp only [Str.join, cps7, List.append_assoc]
  kernel_rfl
theorem m7_3 (ta tb tc : PySem.Str) : Txt.join (Str.ofString "") [Str.ofString "While reading from ", tc, Str.ofString ": option ", tb, Str.ofString " in section ", ta, Str.ofString " already exists"] = msg7 3 ta tb tc := by
  refine ext7 ?_
  show _ = (Str.ofString "While reading from " ++ tc ++ Str.ofString ": option " ++ tb ++ Str.ofString " in section " ++ ta ++ Str.ofString " already exists").cps.toList
  rw [txt_join]
  simp only [Str.join, cps7, List.append_assoc]
  kernel_rfl
theorem m7_4 (ta tb tc : PySem.Str) : Str.ofString "Bad value substitution: option " ++ ta ++ Str.ofString " in section " ++ tb ++ Str.ofString " contains an interpolation key " ++ ta ++ Str.ofString " which is not a valid option name. Raw value: " ++ tc = msg7 4 ta tb tc := by
  refine ext7 ?_
  show _ = (Str.ofString "Bad value substitution: " ++ key7 ta tb ++ ta ++ Str.ofString " which is not a valid option name. Raw value: " ++ tc).cps.toList
  simp only [key7, cps7, List.append_assoc]
  kernel_rfl
theorem m7_5 (ta tb tc : PySem.Str) : Str.ofString "Recursion limit exceeded in value substitution: option " ++ ta ++ Str.ofString " in section " ++ tb ++ Str.ofString " contains an interpolation key which cannot be substituted in " ++ Str.ofString "10" ++ Str.ofString " steps. Raw value: " ++ tc = msg7 5 ta tb tc := by
  refine ext7 ?_
  show _ = (Str.ofString "Recursion limit exceeded in value substitution: " ++ key7 ta tb ++ Str.ofString "which cannot be substituted in 10 steps. Raw value: " ++ tc).cps.toList
  simp only [key7, cps7, List.append_assoc]
  kernel_rfl
theorem subf0 (a b c : PySem.Value) : ∀ p ∈ flds7 0 a b c, p ∈ ([("section", a)] : List (PySem.Str × PySem.Value)) := by
  intro p hp
  simp only [flds7, List.mem_cons, List.not_mem_nil, or_false] at hp
  first | (rcases hp with h | h | h <;> (subst h; simp)) | (rcases hp with h | h <;> (subst h; simp)) | (subst hp; simp)
theorem subf1 (a b c : PySem.Value) : ∀ p ∈ flds7 1 a b c, p ∈ ([("option", a), ("section", b)] : List (PySem.Str × PySem.Value)) := by
  intro p hp
  simp only [flds7, List.mem_cons, List.not_mem_nil, or_false] at hp
  first | (rcases hp with h | h | h <;> (subst h; simp)) | (rcases hp with h | h <;> (subst h; simp)) | (subst hp; simp)
theorem subf2 (a b c : PySem.Value) : ∀ p ∈ flds7 2 a b c, p ∈ ([("section", a), ("source", b), ("lineno", .none)] : List (PySem.Str × PySem.Value)) := by
  intro p hp
  simp only [flds7, List.mem_cons, List.not_mem_nil, or_false] at hp
  first | (rcases hp with h | h | h <;> (subst h; simp)) | (rcases hp with h | h <;> (subst h; simp)) | (subst hp; simp)
theorem subf3 (a b c : PySem.Value) : ∀ p ∈ flds7 3 a b c, p ∈ ([("section", a), ("option", b), ("source", c), ("lineno", .none)] : List (PySem.Str × PySem.Value)) := by
  intro p hp
  simp only [flds7, List.mem_cons, List.not_mem_nil, or_false] at hp
  first | (rcases hp with h | h | h <;> (subst h; simp)) | (rcases hp with h | h <;> (subst h; simp)) | (subst hp; simp)
theorem subf4 (a b c : PySem.Value) : ∀ p ∈ flds7 4 a b c, p ∈ ([("option", a), ("section", b), ("reference", a)] : List (PySem.Str × PySem.Value)) := by
  intro p hp
  simp only [flds7, List.mem_cons, List.not_mem_nil, or_false] at hp
  first | (rcases hp with h | h | h <;> (subst h; simp)) | (rcases hp with h | h <;> (subst h; simp)) | (subst hp; simp)
theorem subf5 (a b c : PySem.Value) : ∀ p ∈ flds7 5 a b c, p ∈ ([("option", a), ("section", b)] : List (PySem.Str × PySem.Value)) := by
  intro p hp
  simp only [flds7, List.mem_cons, List.not_mem_nil, or_false] at hp
  first | (rcases hp with h | h | h <;> (subst h; simp)) | (rcases hp with h | h <;> (subst h; simp)) | (subst hp; simp)
end
section
open PySem PySem.W PySem.Calls PyProof.Rows PySem.SeqAt
set_option Elab.async false
set_option maxRecDepth 100000
set_option maxHeartbeats 4000000
set_option linter.unusedVariables false
/-- a heap holds an error of a kind -/
def Er7 (h : Heap) (k : Nat) (a b c : PySem.Value) (msg : PySem.Str) (e : Addr) : Prop := ∃ d t od u, h.get? e = some (excObj (cls7 k) (some d) t) ∧ h.get? d = some od ∧ h.get? t = some (tupObj (due7 k a b c)) ∧ lookIn "message" od = some (some (.str msg u)) ∧ Fields od (flds7 k a b c)
theorem Er7.mono {h h' : Heap} {k : Nat} {a b c : PySem.Value} {msg : PySem.Str} {e : Addr} (x : Er7 h k a b c msg e) (g : Grow h h') : Er7 h' k a b c msg e := by
  obtain ⟨d, t, od, u, h1, h2, h3, h4⟩ := x
  exact ⟨d, t, od, u, g _ _ h1, g _ _ h2, g _ _ h3, h4⟩
/-- the pairs that _law_held hands back -/
structure Held7 (h h' : Heap) (l : Addr) (n : Nat) (qs : List Addr) (a b c : PySem.Value) : Prop where
  hl : h'.get? l = some (listOf (qs.map PySem.Value.ref).toArray n)
  nl : h.get? l = none
  hq : ∀ q ∈ qs, h.get? q = none ∧ ∃ x, (x = a ∨ x = b ∨ x = c) ∧ h'.get? q = some (tupObj [x, x])
  few : qs.length ≤ 3
section
variable {prog : Program} {w : World} {A : Around} {E : PySem.Value → Shared → Prop} {s : Shared} {Q : PySem.Value → Shared → Prop} {h : Heap} {k : Nat} {a b c : PySem.Value} {msg : PySem.Str} {e : Addr}
theorem get7 {expr : Bool} {K : Frag} {name : PySem.Str} {v : PySem.Value} (er : Er7 h k a b c msg e) (g : Grow h s.heap) (X : K.In s.heap) (c1 : clsB K (cls7 k) 36 = true) (n : nameB K (cls7 k) name = true) (hf : (name, v) ∈ flds7 k a b c) (hv : handedIn v = true)
    (q : Q v { s with toks := s.toks + 1 }) : wpAny (model prog w) A (getAttr (.ref e) name expr) Q E s := by
  obtain ⟨d, t, od, u, h1, h2, h3, h4, h5⟩ := er
  exact gets_field X (g _ _ h1) (g _ _ h2) c1 n (h5 _ hf) hv A s Q E expr (Grow.refl _) q
theorem held_end {h h' : Heap} {L l : Addr} {n : Nat} {qs : List Addr} {news : List (Addr × Obj)} (N : News h L h' news) (hl : (l, listOf (qs.map PySem.Value.ref).toArray n) ∈ news) (hq : ∀ q ∈ qs, ∃ x, (x = a ∨ x = b ∨ x = c) ∧ (q, tupObj [x, x]) ∈ news) (few : qs.length ≤ 3) : Held7 h h' l n qs a b c :=
  ⟨(N _ hl).1, (N _ hl).2.2, fun q h => let ⟨x, h1, h2⟩ := hq q h; ⟨(N _ h2).2.2, x, h1, (N _ h2).1⟩, few⟩
end
end
section
theorem layMd071 : True := by
  k_with_none
  k_with "ne" => (with_reducible (first | exact ns1 | exact ns2 | exact qlt (by assumption) | exact qgt (by assumption) | exact qne (by assumption) | exact qen (by assumption) | exact rlt (by assumption) | exact rgt (by assumption) | exact rne (by assumption) | exact ren (by assumption) | exact qlt (And.right (by assumption)) | exact qgt (And.right (by assumption)) | exact qne (And.right (by assumption)) | exact qen (And.right (by assumption)) | exact rlt (And.right (by assumption)) | exact rgt (And.right (by assumption)) | exact rne (And.right (by assumption)) | exact ren (And.right (by assumption)) | exact qlt (And.right (And.right (by assumption))) | exact qgt (And.right (And.right (by assumption))) | exact qne (And.right (And.right (by assumption))) | exact qen (And.right (And.right (by assumption))) | exact rlt (And.right (And.right (by assumption))) | exact rgt (And.right (And.right (by assumption))) | exact rne (And.right (And.right (by assumption))) | exact ren (And.right (And.right (by assumption))) | exact qlt (And.right (And.right (And.right (by assumption)))) | exact qgt (And.right (And.right (And.right (by assumption)))) | exact qne (And.right (And.right (And.right (by assumption)))) | exact qen (And.right (And.right (And.right (by assumption)))) | exact rlt (And.right (And.right (And.right (by assumption)))) | exact rgt (And.right (And.right (And.right (by assumption)))) | exact rne (And.right (And.right (And.right (by assumption)))) | exact ren (And.right (And.right (And.right (by assumption)))) | exact qlt (And.right (And.right (And.right (And.right (by assumption))))) | exact qgt (And.right (And.right (And.right (And.right (by assumption))))) | exact qne (And.right (And.right (And.right (And.right (by assumption))))) | exact qen (And.right (And.right (And.right (And.right (by assumption))))) | exact rlt (And.right (And.right (And.right (And.right (by assumption))))) | exact rgt (And.right (And.right (And.right (And.right (by assumption))))) | exact rne (And.right (And.right (And.right (And.right (by assumption))))) | exact ren (And.right (And.right (And.right (And.right (by assumption))))) | exact qlt (And.right (And.right (And.right (And.right (And.right (by assumption)))))) | exact qgt (And.right (And.right (And.right (And.right (And.right (by assumption)))))) | exact qne (And.right (And.right (And.right (And.right (And.right (by assumption)))))) | exact qen (And.right (And.right (And.right (And.right (And.right (by assumption)))))) | exact rlt (And.right (And.right (And.right (And.right (And.right (by assumption)))))) | exact rgt (And.right (And.right (And.right (And.right (And.right (by assumption)))))) | exact rne (And.right (And.right (And.right (And.right (And.right (by assumption)))))) | exact ren (And.right (And.right (And.right (And.right (And.right (by assumption)))))) | exact qlt (And.right (And.right (And.right (And.right (And.right (And.right (by assumption))))))) | exact qgt (And.right (And.right (And.right (And.right (And.right (And.right (by assumption))))))) | exact qne (And.right (And.right (And.right (And.right (And.right (And.right (by assumption))))))) | exact qen (And.right (And.right (And.right (And.right (And.right (And.right (by assumption))))))) | exact rlt (And.right (And.right (And.right (And.right (And.right (And.right (by assumption))))))) | exact rgt (And.right (And.right (And.right (And.right (And.right (And.right (by assumption))))))) | exact rne (And.right (And.right (And.right (And.right (And.right (And.right (by assumption))))))) | exact ren (And.right (And.right (And.right (And.right (And.right (And.right (by assumption))))))) | exact qlt (And.right (And.right (And.right (And.right (And.right (And.right (And.right (by assumption)))))))) | exact qgt (And.right (And.right (And.right (And.right (And.right (And.right (And.right (by assumption)))))))) | exact qne (And.right (And.right (And.right (And.right (And.right (And.right (And.right (by assumption)))))))) | exact qen (And.right (And.right (And.right (And.right (And.right (And.right (And.right (by assumption)))))))) | exact rlt (And.right (And.right (And.right (And.right (And.right (And.right (And.right (by assumption)))))))) | exact rgt (And.right (And.right (And.right (And.right (And.right (And.right (And.right (by assumption)))))))) | exact rne (And.right (And.right (And.right (And.right (And.right (And.right (And.right (by assumption)))))))) | exact ren (And.right (And.right (And.right (And.right (And.right (And.right (And.right (by assumption)))))))) | exact qlt (And.right (And.right (And.right (And.right (And.right (And.right (And.right (And.right (by assumption))))))))) | exact qgt (And.right (And.right (And.right (And.right (And.right (And.right (And.right (And.right (by assumption))))))))) | exact qne (And.right (And.right (And.right (And.right (And.right (And.right (And.right (And.right (by assumption))))))))) | exact qen (And.right (And.right (And.right (And.right (And.right (And.right (And.right (And.right (by assumption))))))))) | exact rlt (And.right (And.right (And.right (And.right (And.right (And.right (And.right (And.right (by assumption))))))))) | exact rgt (And.right (And.right (And.right (And.right (And.right (And.right (And.right (And.right (by assumption))))))))) | exact rne (And.right (And.right (And.right (And.right (And.right (And.right (And.right (And.right (by assumption))))))))) | exact ren (And.right (And.right (And.right (And.right (And.right (And.right (And.right (And.right (by assumption))))))))) | exact qlt (And.right (And.right (And.right (And.right (And.right (And.right (And.right (And.right (And.right (by assumption)))))))))) | exact qgt (And.right (And.right (And.right (And.right (And.right (And.right (And.right (And.right (And.right (by assumption)))))))))) | exact qne (And.right (And.right (And.right (And.right (And.right (And.right (And.right (And.right (And.right (by assumption)))))))))) | exact qen (And.right (And.right (And.right (And.right (And.right (And.right (And.right (And.right (And.right (by assumption)))))))))) | exact rlt (And.right (And.right (And.right (And.right (And.right (And.right (And.right (And.right (And.right (by assumption)))))))))) | exact rgt (And.right (And.right (And.right (And.right (And.right (And.right (And.right (And.right (And.right (by assumption)))))))))) | exact rne (And.right (And.right (And.right (And.right (And.right (And.right (And.right (And.right (And.right (by assumption)))))))))) | exact ren (And.right (And.right (And.right (And.right (And.right (And.right (And.right (And.right (And.right (by assumption)))))))))) | exact qlt (And.right (And.right (And.right (And.right (And.right (And.right (And.right (And.right (And.right (And.right (by assumption))))))))))) | exact qgt (And.right (And.right (And.right (And.right (And.right (And.right (And.right (And.right (And.right (And.right (by assumption))))))))))) | exact qne (And.right (And.right (And.right (And.right (And.right (And.right (And.right (And.right (And.right (And.right (by assumption))))))))))) | exact qen (And.right (And.right (And.right (And.right (And.right (And.right (And.right (And.right (And.right (And.right (by assumption))))))))))) | exact rlt (And.right (And.right (And.right (And.right (And.right (And.right (And.right (And.right (And.right (And.right (by assumption))))))))))) | exact rgt (And.right (And.right (And.right (And.right (And.right (And.right (And.right (And.right (And.right (And.right (by assumption))))))))))) | exact rne (And.right (And.right (And.right (And.right (And.right (And.right (And.right (And.right (And.right (And.right (by assumption))))))))))) | exact ren (And.right (And.right (And.right (And.right (And.right (And.right (And.right (And.right (And.right (And.right (by assumption))))))))))) | exact qlt (And.right (And.right (And.right (And.right (And.right (And.right (And.right (And.right (And.right (And.right (And.right (by assumption)))))))))))) | exact qgt (And.right (And.right (And.right (And.right (And.right (And.right (And.right (And.right (And.right (And.right (And.right (by assumption)))))))))))) | exact qne (And.right (And.right (And.right (And.right (And.right (And.right (And.right (And.right (And.right (And.right (And.right (by assumption)))))))))))) | exact qen (And.right (And.right (And.right (And.right (And.right (And.right (And.right (And.right (And.right (And.right (And.right (by assumption)))))))))))) | exact rlt (And.right (And.right (And.right (And.right (And.right (And.right (And.right (And.right (And.right (And.right (And.right (by assumption)))))))))))) | exact rgt (And.right (And.right (And.right (And.right (And.right (And.right (And.right (And.right (And.right (And.right (And.right (by assumption)))))))))))) | exact rne (And.right (And.right (And.right (And.right (And.right (And.right (And.right (And.right (And.right (And.right (And.right (by assumption)))))))))))) | exact ren (And.right (And.right (And.right (And.right (And.right (And.right (And.right (And.right (And.right (And.right (And.right (by assumption)))))))))))) | exact qlt (And.right (And.right (And.right (And.right (And.right (And.right (And.right (And.right (And.right (And.right (And.right (And.right (by assumption))))))))))))) | exact qgt (And.right (And.right (And.right (And.right (And.right (And.right (And.right (And.right (And.right (And.right (And.right (And.right (by assumption))))))))))))) | exact qne (And.right (And.right (And.right (And.right (And.right (And.right (And.right (And.right (And.right (And.right (And.right (And.right (by assumption))))))))))))) | exact qen (And.right (And.right (And.right (And.right (And.right (And.right (And.right (And.right (And.right (And.right (And.right (And.right (by assumption))))))))))))) | exact rlt (And.right (And.right (And.right (And.right (And.right (And.right (And.right (And.right (And.right (And.right (And.right (And.right (by assumption))))))))))))) | exact rgt (And.right (And.right (And.right (And.right (And.right (And.right (And.right (And.right (And.right (And.right (And.right (And.right (by assumption))))))))))))) | exact rne (And.right (And.right (And.right (And.right (And.right (And.right (And.right (And.right (And.right (And.right (And.right (And.right (by assumption))))))))))))) | exact ren (And.right (And.right (And.right (And.right (And.right (And.right (And.right (And.right (And.right (And.right (And.right (And.right (by assumption))))))))))))) | exact qlt (And.right (And.right (And.right (And.right (And.right (And.right (And.right (And.right (And.right (And.right (And.right (And.right (And.right (by assumption)))))))))))))) | exact qgt (And.right (And.right (And.right (And.right (And.right (And.right (And.right (And.right (And.right (And.right (And.right (And.right (And.right (by assumption)))))))))))))) | exact qne (And.right (And.right (And.right (And.right (And.right (And.right (And.right (And.right (And.right (And.right (And.right (And.right (And.right (by assumption)))))))))))))) | exact qen (And.right (And.right (And.right (And.right (And.right (And.right (And.right (And.right (And.right (And.right (And.right (And.right (And.right (by assumption)))))))))))))) | exact rlt (And.right (And.right (And.right (And.right (And.right (And.right (And.right (And.right (And.right (And.right (And.right (And.right (And.right (by assumption)))))))))))))) | exact rgt (And.right (And.right (And.right (And.right (And.right (And.right (And.right (And.right (And.right (And.right (And.right (And.right (And.right (by assumption)))))))))))))) | exact rne (And.right (And.right (And.right (And.right (And.right (And.right (And.right (And.right (And.right (And.right (And.right (And.right (And.right (by assumption)))))))))))))) | exact ren (And.right (And.right (And.right (And.right (And.right (And.right (And.right (And.right (And.right (And.right (And.right (And.right (And.right (by assumption)))))))))))))) | exact qlt (And.right (And.right (And.right (And.right (And.right (And.right (And.right (And.right (And.right (And.right (And.right (And.right (And.right (And.right (by assumption))))))))))))))) | exact qgt (And.right (And.right (And.right (And.right (And.right (And.right (And.right (And.right (And.right (And.right (And.right (And.right (And.right (And.right (by assumption))))))))))))))) | exact qne (And.right (And.right (And.right (And.right (And.right (And.right (And.right (And.right (And.right (And.right (And.right (And.right (And.right (And.right (by assumption))))))))))))))) | exact qen (And.right (And.right (And.right (And.right (And.right (And.right (And.right (And.right (And.right (And.right (And.right (And.right (And.right (And.right (by assumption))))))))))))))) | exact rlt (And.right (And.right (And.right (And.right (And.right (And.right (And.right (And.right (And.right (And.right (And.right (And.right (And.right (And.right (by assumption))))))))))))))) | exact rgt (And.right (And.right (And.right (And.right (And.right (And.right (And.right (And.right (And.right (And.right (And.right (And.right (And.right (And.right (by assumption))))))))))))))) | exact rne (And.right (And.right (And.right (And.right (And.right (And.right (And.right (And.right (And.right (And.right (And.right (And.right (And.right (And.right (by assumption))))))))))))))) | exact ren (And.right (And.right (And.right (And.right (And.right (And.right (And.right (And.right (And.right (And.right (And.right (And.right (And.right (And.right (by assumption))))))))))))))) | exact qlt (And.right (And.right (And.right (And.right (And.right (And.right (And.right (And.right (And.right (And.right (And.right (And.right (And.right (And.right (And.right (by assumption)))))))))))))))) | exact qgt (And.right (And.right (And.right (And.right (And.right (And.right (And.right (And.right (And.right (And.right (And.right (And.right (And.right (And.right (And.right (by assumption)))))))))))))))) | exact qne (And.right (And.right (And.right (And.right (And.right (And.right (And.right (And.right (And.right (And.right (And.right (And.right (And.right (And.right (And.right (by assumption)))))))))))))))) | exact qen (And.right (And.right (And.right (And.right (And.right (And.right (And.right (And.right (And.right (And.right (And.right (And.right (And.right (And.right (And.right (by assumption)))))))))))))))) | exact rlt (And.right (And.right (And.right (And.right (And.right (And.right (And.right (And.right (And.right (And.right (And.right (And.right (And.right (And.right (And.right (by assumption)))))))))))))))) | exact rgt (And.right (And.right (And.right (And.right (And.right (And.right (And.right (And.right (And.right (And.right (And.right (And.right (And.right (And.right (And.right (by assumption)))))))))))))))) | exact rne (And.right (And.right (And.right (And.right (And.right (And.right (And.right (And.right (And.right (And.right (And.right (And.right (And.right (And.right (And.right (by assumption)))))))))))))))) | exact ren (And.right (And.right (And.right (And.right (And.right (And.right (And.right (And.right (And.right (And.right (And.right (And.right (And.right (And.right (And.right (by assumption))))))))))))))))))
  trivial
theorem layMd072 : True := by
  k_with "mine texts" => ((try dsimp only [← sx0, ← sx1, ← sx2, ← sx3, ← sx4, ← sx5, ← sx6, ← sx7, ← sx8, ← sx9, ← sx10, ← sx11, ← sx12, ← sx13, ← sx14, ← sx15, ← sx16, ← sx17, ← sx18, ← sx19, ← sx20, ← sx21, ← sx22, ← sx23, ← sx24, ← sx25, ← sx26, ← sx27, ← sx28, ← sx29, ← sx30, ← sx31, ← sx32, ← sx33, ← sx34, ← sx35, ← sx36, ← sx37, ← sx38, ← sx39, ← sx40, ← sx41, ← sx42, ← sx43, ← sx44, ← sx45, ← sx46, ← sx47, ← sx48, ← sx49, ← sx50, ← sx51, ← sx52, ← sx53, ← sx54, ← sx55, ← sx56, ← sx57, ← sx58, ← sx59, ← sx60, ← sx61, ← sx62, ← sx63, ← sx64, ← sx65, ← sx66, ← sx67, ← sx68, ← sx69, ← sx70, ← sx71, ← sx72, ← sx73, ← sx74, ← sx75, ← sx76, ← sx77, ← sx78, ← sx79, ← sx80, ← sx81, ← sx82, ← sx83, ← sx84, ← sx85, ← sx86, ← sx87, ← sx88, ← sx89, ← sx90, ← sx91, ← sx92, ← sx93, ← sx94, ← sx95, ← sx96, ← sx97, ← sx98, ← sx99, ← sx100, ← sx101, ← sx102, ← sx103, ← sx104, ← sx105, ← sx106, ← sx107, ← sx108, ← sx109]))
  k_with "mine drop" => (first | (refine' Drop.head ?a; (case a => k_all)) | (refine' Drop.tail ?a ?b; (case a => k_ne); (case b => walk_at "mine drop")))
  k_with "setAttr ref" => ((k_here; k_dflt (first | (refine' exc_set0 ?k1 ?k2 ?k3 ?k4 ?k5 ?k6 ?k7 ?k8 ?k9 ?_; (case k1 => k_asm); (case k2 => k_asm); (case k3 => k_asm); (case k4 => k_mem); (case k5 => k_is); (case k6 => kernel_rfl); (case k7 => k_is); (case k8 => k_is); (case k9 => intro zqd; k_upd); k_whole; intro zqdp zqhp zqFp zqNp zql1; (try k_lt zql1)) | (refine' exc_set_args ?k1 ?k2 ?k3 ?k4 ?k5 ?k6 ?k7 ?k8 ?k9 ?k10 ?_; (case k1 => k_asm); (case k2 => k_asm); (case k3 => k_asm); (case k4 => first | (refine' InstAt.of_exc ?N ?h1 ?h2; (case N => k_asm); (case h1 => k_mem); (case h2 => k_mem)) | (refine' InstAt.of_exc0 ?N ?h1; (case N => k_asm); (case h1 => k_mem))); (case k5 => exact isTup_of (by k_asm) (by k_mem)); (case k6 => k_is); (case k7 => kernel_rfl); (case k8 => k_is); (case k9 => k_is); (case k10 => k_upd); k_whole; intro zqhp zqFp zqNp) | (refine' exc_set ?k1 ?k2 ?k3 ?k4 ?k5 ?k6 ?k7 ?k8 ?k9 ?k10 ?k11 ?k12 ?_; (case k1 => k_asm); (case k2 => k_asm); (case k3 => k_asm); (case k4 => first | (refine' InstAt.of_exc ?N ?h1 ?h2; (case N => k_asm); (case h1 => k_mem); (case h2 => k_mem)) | (refine' InstAt.of_exc0 ?N ?h1; (case N => k_asm); (case h1 => k_mem))); (case k5 => k_is); (case k6 => kernel_rfl); (case k7 => k_is); (case k8 => k_is); (case k9 => k_get); (case k10 => k_put); (case k11 => k_upd); (case k12 => exact Nat.le_of_ble_eq_true rfl); k_whole; intro zqhp zqFp zqNp))))
  k_with "call builtin:Exception.__init__" => ((k_here; k_dflt (refine' exc_init_call ?k1 ?k2 ?k3 ?k4 ?k5 ?k6 ?_; (case k1 => k_asm); (case k2 => k_asm); (case k3 => k_asm); (case k4 => first | (refine' InstAt.of_exc ?N ?h1 ?h2; (case N => k_asm); (case h1 => k_mem); (case h2 => k_mem)) | (refine' InstAt.of_exc0 ?N ?h1; (case N => k_asm); (case h1 => k_mem))); (case k5 => k_is); (case k6 => intro zqt; k_upd); k_whole; intro zqtp zqhp zqFp zqNp zql1; (try k_lt zql1))))
  k_with "call builtin:repr" => ((k_here; k_dflt (refine' repr_use ?k1 ?k2 ?k3 ?k4 ?k5 ?k6 ?k7 ?_; (case k1 => assumption); (case k2 => k_asm); (case k3 => k_asm); (case k4 => exact rfl); (case k5 => exact rfl); (case k6 => exact Nat.le_of_ble_eq_true rfl); (case k7 => exact Nat.le_of_ble_eq_true rfl); k_whole; intro zqhp zqup zqtkp zqFp zqNp)))
  k_with "BackIn" => ((k_dflt (refine' back_ ?k1 ?k2 ?k3 ?_; (case k1 => k_asm); (case k2 => k_asm); (case k3 => walk_at "mine drop"); k_whole; intro zqFp zqNp; (try dsimp only))))
  k_with "call ref" => ((k_here; k_dflt (refine wpAny_call ?_; refine' enter_in ?k1 ?k2 ?k3 ?k4 ?k5 ?k6 ?k7 ?k8 ?kB ?c2 ?c3 ?c4 ?c5 ?_; (case k1 => k_asm); (case k2 => k_asm); (case k3 => k_asm); (case k4 => exact Top.nolimit (by assumption)); (case k5 => k_is); (case k6 => k_is); (case k7 => exact Nat.le_of_ble_eq_true rfl); (case k8 => first | ((with_reducible show BindsTo _ _ ⟨[_], []⟩ _); first | exact BindsTo.of_eq (binds := [(_, _)]) rfl | exact binds_K (binds := [(_, _)]) (by k_in) rfl (by k_is) rfl rfl rfl) | ((with_reducible show BindsTo _ _ ⟨[_, _], []⟩ _); first | exact BindsTo.of_eq (binds := [(_, _), (_, _)]) rfl | exact binds_K (binds := [(_, _), (_, _)]) (by k_in) rfl (by k_is) rfl rfl rfl) | ((with_reducible show BindsTo _ _ ⟨[_, _, _], []⟩ _); first | exact BindsTo.of_eq (binds := [(_, _), (_, _), (_, _)]) rfl | exact binds_K (binds := [(_, _), (_, _), (_, _)]) (by k_in) rfl (by k_is) rfl rfl rfl) | ((with_reducible show BindsTo _ _ ⟨[_, _, _, _], []⟩ _); first | exact BindsTo.of_eq (binds := [(_, _), (_, _), (_, _), (_, _)]) rfl | exact binds_K (binds := [(_, _), (_, _), (_, _), (_, _)]) (by k_in) rfl (by k_is) rfl rfl rfl) | ((with_reducible show BindsTo _ _ ⟨[_, _, _, _, _], []⟩ _); first | exact BindsTo.of_eq (binds := [(_, _), (_, _), (_, _), (_, _), (_, _)]) rfl | exact binds_K (binds := [(_, _), (_, _), (_, _), (_, _), (_, _)]) (by k_in) rfl (by k_is) rfl rfl rfl)); (case c5 => decide); (case kB => exact locs rfl); (case c2 => exact rfl); (case c3 => exact rfl); (case c4 => exact rfl); k_whole; intro zqoLp zqLp zqhp zqtkp zqFp zqNp zql1 zqn1; (try k_lt zql1); (try (replace zqn1 := allNe_of zqn1; simp only [AllNe, and_true] at zqn1)); (try dsimp only); walk_at "mine texts")))
  k_with "call builtin:str.join" => ((k_here; (with_reducible show wpAny _ _ (call (Value.builtin "str.join") [Value.str _ _, Value.ref _]) _ _ _); k_dflt (refine join_listC (by is_list) (by repeat constructor) (by decide) (by (simp only [List.map_cons, List.map_nil, List.sum_cons, List.sum_nil, List.length_cons, List.length_nil]; omega)) ?_); intro zqtp zqkp))
  k_with "getMethod type:Exception" => ((k_here; refine' method_type ?F ?X ?m (by decide +kernel) ?e ?h ?_; (case F => k_asm); (case X => k_asm); (case m => exact meta_Exception); (case e => k_dflt k_is); (case h => k_handed)))
  k_with "compareOp IsNot" => ((k_here; k_dflt (refine isNot_none (by assumption) ?_)))
  k_with "call builtin:str.format" => ((k_here; k_dflt (refine' line_use ?k1 ?k2 ?k3 ?k4 ?k5 ?k6 ?k7 ?_; (case k1 => assumption); (case k2 => k_asm); (case k3 => k_asm); (case k4 => exact rfl); (case k5 => exact rfl); (case k6 => exact Nat.le_of_ble_eq_true rfl); (case k7 => exact Nat.le_of_ble_eq_true rfl); k_whole; intro zqhp zqup zqtkp zqFp zqNp)))
  k_with "call builtin:str.format" => ((k_here; (with_reducible show wpAny _ _ (call (Value.builtin "str.format") [Value.str _ _, _, _, _, _]) _ _ _); k_dflt (refine' fmt_use ?k1 ?k2 ?k3 ?k4 ?k5 ?_; (case k1 => k_asm); (case k2 => k_asm); (case k3 => exact ⟨rfl, rfl, Nat.le_of_ble_eq_true rfl, Nat.le_of_ble_eq_true rfl⟩); (case k4 => exact args_5 _ _ _ _ _); (case k5 => walk_at "mine fmt")); k_whole; intro zqhp zqup zqtkp zqFp zqNp))
  k_with "pyReprObj" => ((k_here; k_dflt (refine' reprObj_use ?k1 ?k2 ?k3 ?k4 ?k5 ?k6 ?k7 ?_; (case k1 => assumption); (case k2 => k_asm); (case k3 => k_asm); (case k4 => exact rfl); (case k5 => exact rfl); (case k6 => exact Nat.le_of_ble_eq_true rfl); (case k7 => exact Nat.le_of_ble_eq_true rfl); k_whole; intro zqhp zqup zqtkp zqFp zqNp)))
  trivial
set_option pp.deepTerms false
set_option pp.deepTerms.threshold 14
set_option pp.proofs false
theorem layMd073 : True := by
  k_with "call ref" => ((refine haltw_ ?_))
  trivial
theorem made7 : ∀ {p : Program} {loose : List Str} {mean : ExcName → Option Value} {mg mb : Str → Option Value} (w : World) (s : Shared) (k : Int) (kt : Tok) (h0 : 0 ≤ k) (h6 : k < 6) (a b c : Value) (ta tb tc : Str) (ra : Rep PySem.Challenge.rw_dm0028_07.prog w s.heap a ta) (rb : Rep PySem.Challenge.rw_dm0028_07.prog w s.heap b tb) (rc : Rep PySem.Challenge.rw_dm0028_07.prog w s.heap c tc) (nb : b ≠ .none) (nc : c ≠ .none)
    (Q E : Value → Shared → Prop) (KX : (hz.heap_193 w.params).In s.heap) (T : Top p loose mean mg mb s.heap)
    (hQ : ∀ h' tk (e d t : Addr) (od : Obj) (u : Tok), Grow s.heap h' → Made7 s.heap h' k.toNat a b c ta tb tc e d t od u → Q (.ref e) { s with heap := h', toks := tk }),
    wpAny (model PySem.Challenge.rw_dm0028_07.prog w) (AD 550 1800) (call (.ref 184) [.int k kt, a, b, c]) Q E s := by
  w_top off
  k_fill
  intro p loose mean mg mb w s k kt h0 h6 a b c ta tb tc ra rb rc nb nc Q E KX T hQ
  obtain ⟨hh, g, dr, tk, os⟩ := s
  dsimp only at KX T ra rb rc hQ
  w_strict (
  refine wpAny_call ?_
  k_dflt (refine' enter_new (h₀ := hh) (binds := [("kind", .int k kt), ("a", a), ("b", b), ("c", c)]) (news := []) ?k1 ?k2 KX T.nolimit ?k9 ?k5 ?k6 ?k7 ?k8 ?kB ?c2 ?c3 ?c4 ?c5 ?_; (case k5 => k_is); (case k6 => k_is); (case k7 => exact Nat.le_of_ble_eq_true rfl); (case k8 => first | exact BindsTo.of_eq rfl | exact binds_K KX rfl (by k_is) rfl rfl rfl); (case c5 => decide); (case kB => exact locs rfl); (case c2 => exact rfl); (case c3 => exact rfl); (case c4 => exact rfl); (case k1 => exact fun _ _ e => e); (case k2 => exact Nat.le_refl _); (case k9 => exact List.forall_mem_nil _))
  intro L' h' tk' F' N' l1
  walk_at "mine texts"
  k_steps
  · unfold Halt
    obtain rfl : k = 0 := by omega
    (with_reducible rename Fr _ _ _ _ => F3)
    refine weaken rfl rfl (Nat.le_of_ble_eq_true rfl) (Nat.le_of_ble_eq_true rfl) (conNS w _ a ta (ra.mono F3.keep) _ _ (Frag.In.keeps KX F3.keep) (T.keeps F3.keep) ?_)
    intro h9 tk9 e9 d9 t9 od9 u9 g9 n9
    dsimp only
    k_steps
    exact hQ _ _ _ _ _ _ _ (Grow.trans F3.keep g9) (n9.to7 F3.keep (m7_0 ta tb tc) (subf0 a b c))
  · unfold Halt
    obtain rfl : k = 1 := by omega
    (with_reducible rename Fr _ _ _ _ => F3)
    refine weaken rfl rfl (Nat.le_of_ble_eq_true rfl) (Nat.le_of_ble_eq_true rfl) (conNO w _ a b ta (ra.mono F3.keep) tb (rb.mono F3.keep) _ _ (Frag.In.keeps KX F3.keep) (T.keeps F3.keep) ?_)
    intro h9 tk9 e9 d9 t9 od9 u9 g9 n9
    dsimp only
    k_steps
    exact hQ _ _ _ _ _ _ _ (Grow.trans F3.keep g9) (n9.to7 F3.keep (m7_1 ta tb tc) (subf1 a b c))
  · unfold Halt
    obtain rfl : k = 2 := by omega
    (with_reducible rename Fr _ _ _ _ => F3)
    refine weaken rfl rfl (Nat.le_of_ble_eq_true rfl) (Nat.le_of_ble_eq_true rfl) (conDSo w _ a b nb ta (ra.mono F3.keep) tb (rb.mono F3.keep) _ _ (Frag.In.keeps KX F3.keep) (T.keeps F3.keep) ?_)
    intro h9 tk9 e9 d9 t9 od9 u9 g9 n9
    dsimp only
    k_steps
    exact hQ _ _ _ _ _ _ _ (Grow.trans F3.keep g9) (n9.to7 F3.keep (m7_2 ta tb tc) (subf2 a b c))
  · unfold Halt
    obtain rfl : k = 3 := by omega
    (with_reducible rename Fr _ _ _ _ => F3)
    refine weaken rfl rfl (Nat.le_of_ble_eq_true rfl) (Nat.le_of_ble_eq_true rfl) (conDOo w _ a b c nc ta (ra.mono F3.keep) tb (rb.mono F3.keep) tc (rc.mono F3.keep) _ _ (Frag.In.keeps KX F3.keep) (T.keeps F3.keep) ?_)
    intro h9 tk9 e9 d9 t9 od9 u9 g9 n9
    dsimp only
    k_steps
    exact hQ _ _ _ _ _ _ _ (Grow.trans F3.keep g9) (n9.to7 F3.keep (m7_3 ta tb tc) (subf3 a b c))
  · unfold Halt
    obtain rfl : k = 4 := by omega
    (with_reducible rename Fr _ _ _ _ => F3)
    refine weaken rfl rfl (Nat.le_of_ble_eq_true rfl) (Nat.le_of_ble_eq_true rfl) (conIM w _ a b c a ta (ra.mono F3.keep) tb (rb.mono F3.keep) ta (ra.mono F3.keep) tc (rc.mono F3.keep) _ _ (Frag.In.keeps KX F3.keep) (T.keeps F3.keep) ?_)
    intro h9 tk9 e9 d9 t9 od9 u9 g9 n9
    dsimp only
    k_steps
    exact hQ _ _ _ _ _ _ _ (Grow.trans F3.keep g9) (n9.to7 F3.keep (m7_4 ta tb tc) (subf4 a b c))
  · unfold Halt
    obtain rfl : k = 5 := by omega
    (with_reducible rename Fr _ _ _ _ => F3)
    refine weaken rfl rfl (Nat.le_of_ble_eq_true rfl) (Nat.le_of_ble_eq_true rfl) (conID w _ a b c ta (ra.mono F3.keep) tb (rb.mono F3.keep) tc (rc.mono F3.keep) _ _ (Frag.In.keeps KX F3.keep) (T.keeps F3.keep) ?_)
    intro h9 tk9 e9 d9 t9 od9 u9 g9 n9
    dsimp only
    k_steps
    exact hQ _ _ _ _ _ _ _ (Grow.trans F3.keep g9) (n9.to7 F3.keep (m7_5 ta tb tc) (subf5 a b c)))
end
section
theorem layD071 : True := by
  k_with_none
  k_with "ne" => (with_reducible (first | exact ns1 | exact ns2 | exact qlt (by assumption) | exact qgt (by assumption) | exact qne (by assumption) | exact qen (by assumption) | exact rlt (by assumption) | exact rgt (by assumption) | exact rne (by assumption) | exact ren (by assumption) | exact qlt (And.right (by assumption)) | exact qgt (And.right (by assumption)) | exact qne (And.right (by assumption)) | exact qen (And.right (by assumption)) | exact rlt (And.right (by assumption)) | exact rgt (And.right (by assumption)) | exact rne (And.right (by assumption)) | exact ren (And.right (by assumption)) | exact qlt (And.right (And.right (by assumption))) | exact qgt (And.right (And.right (by assumption))) | exact qne (And.right (And.right (by assumption))) | exact qen (And.right (And.right (by assumption))) | exact rlt (And.right (And.right (by assumption))) | exact rgt (And.right (And.right (by assumption))) | exact rne (And.right (And.right (by assumption))) | exact ren (And.right (And.right (by assumption))) | exact qlt (And.right (And.right (And.right (by assumption)))) | exact qgt (And.right (And.right (And.right (by assumption)))) | exact qne (And.right (And.right (And.right (by assumption)))) | exact qen (And.right (And.right (And.right (by assumption)))) | exact rlt (And.right (And.right (And.right (by assumption)))) | exact rgt (And.right (And.right (And.right (by assumption)))) | exact rne (And.right (And.right (And.right (by assumption)))) | exact ren (And.right (And.right (And.right (by assumption)))) | exact qlt (And.right (And.right (And.right (And.right (by assumption))))) | exact qgt (And.right (And.right (And.right (And.right (by assumption))))) | exact qne (And.right (And.right (And.right (And.right (by assumption))))) | exact qen (And.right (And.right (And.right (And.right (by assumption))))) | exact rlt (And.right (And.right (And.right (And.right (by assumption))))) | exact rgt (And.right (And.right (And.right (And.right (by assumption))))) | exact rne (And.right (And.right (And.right (And.right (by assumption))))) | exact ren (And.right (And.right (And.right (And.right (by assumption))))) | exact qlt (And.right (And.right (And.right (And.right (And.right (by assumption)))))) | exact qgt (And.right (And.right (And.right (And.right (And.right (by assumption)))))) | exact qne (And.right (And.right (And.right (And.right (And.right (by assumption)))))) | exact qen (And.right (And.right (And.right (And.right (And.right (by assumption)))))) | exact rlt (And.right (And.right (And.right (And.right (And.right (by assumption)))))) | exact rgt (And.right (And.right (And.right (And.right (And.right (by assumption)))))) | exact rne (And.right (And.right (And.right (And.right (And.right (by assumption)))))) | exact ren (And.right (And.right (And.right (And.right (And.right (by assumption)))))) | exact qlt (And.right (And.right (And.right (And.right (And.right (And.right (by assumption))))))) | exact qgt (And.right (And.right (And.right (And.right (And.right (And.right (by assumption))))))) | exact qne (And.right (And.right (And.right (And.right (And.right (And.right (by assumption))))))) | exact qen (And.right (And.right (And.right (And.right (And.right (And.right (by assumption))))))) | exact rlt (And.right (And.right (And.right (And.right (And.right (And.right (by assumption))))))) | exact rgt (And.right (And.right (And.right (And.right (And.right (And.right (by assumption))))))) | exact rne (And.right (And.right (And.right (And.right (And.right (And.right (by assumption))))))) | exact ren (And.right (And.right (And.right (And.right (And.right (And.right (by assumption))))))) | exact qlt (And.right (And.right (And.right (And.right (And.right (And.right (And.right (by assumption)))))))) | exact qgt (And.right (And.right (And.right (And.right (And.right (And.right (And.right (by assumption)))))))) | exact qne (And.right (And.right (And.right (And.right (And.right (And.right (And.right (by assumption)))))))) | exact qen (And.right (And.right (And.right (And.right (And.right (And.right (And.right (by assumption)))))))) | exact rlt (And.right (And.right (And.right (And.right (And.right (And.right (And.right (by assumption)))))))) | exact rgt (And.right (And.right (And.right (And.right (And.right (And.right (And.right (by assumption)))))))) | exact rne (And.right (And.right (And.right (And.right (And.right (And.right (And.right (by assumption)))))))) | exact ren (And.right (And.right (And.right (And.right (And.right (And.right (And.right (by assumption)))))))) | exact qlt (And.right (And.right (And.right (And.right (And.right (And.right (And.right (And.right (by assumption))))))))) | exact qgt (And.right (And.right (And.right (And.right (And.right (And.right (And.right (And.right (by assumption))))))))) | exact qne (And.right (And.right (And.right (And.right (And.right (And.right (And.right (And.right (by assumption))))))))) | exact qen (And.right (And.right (And.right (And.right (And.right (And.right (And.right (And.right (by assumption))))))))) | exact rlt (And.right (And.right (And.right (And.right (And.right (And.right (And.right (And.right (by assumption))))))))) | exact rgt (And.right (And.right (And.right (And.right (And.right (And.right (And.right (And.right (by assumption))))))))) | exact rne (And.right (And.right (And.right (And.right (And.right (And.right (And.right (And.right (by assumption))))))))) | exact ren (And.right (And.right (And.right (And.right (And.right (And.right (And.right (And.right (by assumption))))))))) | exact qlt (And.right (And.right (And.right (And.right (And.right (And.right (And.right (And.right (And.right (by assumption)))))))))) | exact qgt (And.right (And.right (And.right (And.right (And.right (And.right (And.right (And.right (And.right (by assumption)))))))))) | exact qne (And.right (And.right (And.right (And.right (And.right (And.right (And.right (And.right (And.right (by assumption)))))))))) | exact qen (And.right (And.right (And.right (And.right (And.right (And.right (And.right (And.right (And.right (by assumption)))))))))) | exact rlt (And.right (And.right (And.right (And.right (And.right (And.right (And.right (And.right (And.right (by assumption)))))))))) | exact rgt (And.right (And.right (And.right (And.right (And.right (And.right (And.right (And.right (And.right (by assumption)))))))))) | exact rne (And.right (And.right (And.right (And.right (And.right (And.right (And.right (And.right (And.right (by assumption)))))))))) | exact ren (And.right (And.right (And.right (And.right (And.right (And.right (And.right (And.right (And.right (by assumption)))))))))) | exact qlt (And.right (And.right (And.right (And.right (And.right (And.right (And.right (And.right (And.right (And.right (by assumption))))))))))) | exact qgt (And.right (And.right (And.right (And.right (And.right (And.right (And.right (And.right (And.right (And.right (by assumption))))))))))) | exact qne (And.right (And.right (And.right (And.right (And.right (And.right (And.right (And.right (And.right (And.right (by assumption))))))))))) | exact qen (And.right (And.right (And.right (And.right (And.right (And.right (And.right (And.right (And.right (And.right (by assumption))))))))))) | exact rlt (And.right (And.right (And.right (And.right (And.right (And.right (And.right (And.right (And.right (And.right (by assumption))))))))))) | exact rgt (And.right (And.right (And.right (And.right (And.right (And.right (And.right (And.right (And.right (And.right (by assumption))))))))))) | exact rne (And.right (And.right (And.right (And.right (And.right (And.right (And.right (And.right (And.right (And.right (by assumption))))))))))) | exact ren (And.right (And.right (And.right (And.right (And.right (And.right (And.right (And.right (And.right (And.right (by assumption))))))))))) | exact qlt (And.right (And.right (And.right (And.right (And.right (And.right (And.right (And.right (And.right (And.right (And.right (by assumption)))))))))))) | exact qgt (And.right (And.right (And.right (And.right (And.right (And.right (And.right (And.right (And.right (And.right (And.right (by assumption)))))))))))) | exact qne (And.right (And.right (And.right (And.right (And.right (And.right (And.right (And.right (And.right (And.right (And.right (by assumption)))))))))))) | exact qen (And.right (And.right (And.right (And.right (And.right (And.right (And.right (And.right (And.right (And.right (And.right (by assumption)))))))))))) | exact rlt (And.right (And.right (And.right (And.right (And.right (And.right (And.right (And.right (And.right (And.right (And.right (by assumption)))))))))))) | exact rgt (And.right (And.right (And.right (And.right (And.right (And.right (And.right (And.right (And.right (And.right (And.right (by assumption)))))))))))) | exact rne (And.right (And.right (And.right (And.right (And.right (And.right (And.right (And.right (And.right (And.right (And.right (by assumption)))))))))))) | exact ren (And.right (And.right (And.right (And.right (And.right (And.right (And.right (And.right (And.right (And.right (And.right (by assumption)))))))))))) | exact qlt (And.right (And.right (And.right (And.right (And.right (And.right (And.right (And.right (And.right (And.right (And.right (And.right (by assumption))))))))))))) | exact qgt (And.right (And.right (And.right (And.right (And.right (And.right (And.right (And.right (And.right (And.right (And.right (And.right (by assumption))))))))))))) | exact qne (And.right (And.right (And.right (And.right (And.right (And.right (And.right (And.right (And.right (And.right (And.right (And.right (by assumption))))))))))))) | exact qen (And.right (And.right (And.right (And.right (And.right (And.right (And.right (And.right (And.right (And.right (And.right (And.right (by assumption))))))))))))) | exact rlt (And.right (And.right (And.right (And.right (And.right (And.right (And.right (And.right (And.right (And.right (And.right (And.right (by assumption))))))))))))) | exact rgt (And.right (And.right (And.right (And.right (And.right (And.right (And.right (And.right (And.right (And.right (And.right (And.right (by assumption))))))))))))) | exact rne (And.right (And.right (And.right (And.right (And.right (And.right (And.right (And.right (And.right (And.right (And.right (And.right (by assumption))))))))))))) | exact ren (And.right (And.right (And.right (And.right (And.right (And.right (And.right (And.right (And.right (And.right (And.right (And.right (by assumption))))))))))))) | exact qlt (And.right (And.right (And.right (And.right (And.right (And.right (And.right (And.right (And.right (And.right (And.right (And.right (And.right (by assumption)))))))))))))) | exact qgt (And.right (And.right (And.right (And.right (And.right (And.right (And.right (And.right (And.right (And.right (And.right (And.right (And.right (by assumption)))))))))))))) | exact qne (And.right (And.right (And.right (And.right (And.right (And.right (And.right (And.right (And.right (And.right (And.right (And.right (And.right (by assumption)))))))))))))) | exact qen (And.right (And.right (And.right (And.right (And.right (And.right (And.right (And.right (And.right (And.right (And.right (And.right (And.right (by assumption)))))))))))))) | exact rlt (And.right (And.right (And.right (And.right (And.right (And.right (And.right (And.right (And.right (And.right (And.right (And.right (And.right (by assumption)))))))))))))) | exact rgt (And.right (And.right (And.right (And.right (And.right (And.right (And.right (And.right (And.right (And.right (And.right (And.right (And.right (by assumption)))))))))))))) | exact rne (And.right (And.right (And.right (And.right (And.right (And.right (And.right (And.right (And.right (And.right (And.right (And.right (And.right (by assumption)))))))))))))) | exact ren (And.right (And.right (And.right (And.right (And.right (And.right (And.right (And.right (And.right (And.right (And.right (And.right (And.right (by assumption)))))))))))))) | exact qlt (And.right (And.right (And.right (And.right (And.right (And.right (And.right (And.right (And.right (And.right (And.right (And.right (And.right (And.right (by assumption))))))))))))))) | exact qgt (And.right (And.right (And.right (And.right (And.right (And.right (And.right (And.right (And.right (And.right (And.right (And.right (And.right (And.right (by assumption))))))))))))))) | exact qne (And.right (And.right (And.right (And.right (And.right (And.right (And.right (And.right (And.right (And.right (And.right (And.right (And.right (And.right (by assumption))))))))))))))) | exact qen (And.right (And.right (And.right (And.right (And.right (And.right (And.right (And.right (And.right (And.right (And.right (And.right (And.right (And.right (by assumption))))))))))))))) | exact rlt (And.right (And.right (And.right (And.right (And.right (And.right (And.right (And.right (And.right (And.right (And.right (And.right (And.right (And.right (by assumption))))))))))))))) | exact rgt (And.right (And.right (And.right (And.right (And.right (And.right (And.right (And.right (And.right (And.right (And.right (And.right (And.right (And.right (by assumption))))))))))))))) | exact rne (And.right (And.right (And.right (And.right (And.right (And.right (And.right (And.right (And.right (And.right (And.right (And.right (And.right (And.right (by assumption))))))))))))))) | exact ren (And.right (And.right (And.right (And.right (And.right (And.right (And.right (And.right (And.right (And.right (And.right (And.right (And.right (And.right (by assumption))))))))))))))) | exact qlt (And.right (And.right (And.right (And.right (And.right (And.right (And.right (And.right (And.right (And.right (And.right (And.right (And.right (And.right (And.right (by assumption)))))))))))))))) | exact qgt (And.right (And.right (And.right (And.right (And.right (And.right (And.right (And.right (And.right (And.right (And.right (And.right (And.right (And.right (And.right (by assumption)))))))))))))))) | exact qne (And.right (And.right (And.right (And.right (And.right (And.right (And.right (And.right (And.right (And.right (And.right (And.right (And.right (And.right (And.right (by assumption)))))))))))))))) | exact qen (And.right (And.right (And.right (And.right (And.right (And.right (And.right (And.right (And.right (And.right (And.right (And.right (And.right (And.right (And.right (by assumption)))))))))))))))) | exact rlt (And.right (And.right (And.right (And.right (And.right (And.right (And.right (And.right (And.right (And.right (And.right (And.right (And.right (And.right (And.right (by assumption)))))))))))))))) | exact rgt (And.right (And.right (And.right (And.right (And.right (And.right (And.right (And.right (And.right (And.right (And.right (And.right (And.right (And.right (And.right (by assumption)))))))))))))))) | exact rne (And.right (And.right (And.right (And.right (And.right (And.right (And.right (And.right (And.right (And.right (And.right (And.right (And.right (And.right (And.right (by assumption)))))))))))))))) | exact ren (And.right (And.right (And.right (And.right (And.right (And.right (And.right (And.right (And.right (And.right (And.right (And.right (And.right (And.right (And.right (by assumption))))))))))))))))))
  trivial
theorem layD072 : True := by
  k_with "mine texts" => ((try dsimp only [← sx0, ← sx1, ← sx2, ← sx3, ← sx4, ← sx5, ← sx6, ← sx7, ← sx8, ← sx9, ← sx10, ← sx11, ← sx12, ← sx13, ← sx14, ← sx15, ← sx16, ← sx17, ← sx18, ← sx19, ← sx20, ← sx21, ← sx22, ← sx23, ← sx24, ← sx25, ← sx26, ← sx27, ← sx28, ← sx29, ← sx30, ← sx31, ← sx32, ← sx33, ← sx34, ← sx35, ← sx36, ← sx37, ← sx38, ← sx39, ← sx40, ← sx41, ← sx42, ← sx43, ← sx44, ← sx45, ← sx46, ← sx47, ← sx48, ← sx49, ← sx50, ← sx51, ← sx52, ← sx53, ← sx54, ← sx55, ← sx56, ← sx57, ← sx58, ← sx59, ← sx60, ← sx61, ← sx62, ← sx63, ← sx64, ← sx65, ← sx66, ← sx67, ← sx68, ← sx69, ← sx70, ← sx71, ← sx72, ← sx73, ← sx74, ← sx75, ← sx76, ← sx77, ← sx78, ← sx79, ← sx80, ← sx81, ← sx82, ← sx83, ← sx84, ← sx85, ← sx86, ← sx87, ← sx88, ← sx89, ← sx90, ← sx91, ← sx92, ← sx93, ← sx94, ← sx95, ← sx96, ← sx97, ← sx98, ← sx99, ← sx100, ← sx101, ← sx102, ← sx103, ← sx104, ← sx105, ← sx106, ← sx107, ← sx108, ← sx109]))
  k_with "mine drop" => (first | (refine' Drop.head ?a; (case a => k_all)) | (refine' Drop.tail ?a ?b; (case a => k_ne); (case b => walk_at "mine drop")))
  k_with "setAttr ref" => ((k_here; k_dflt (first | (refine' exc_set0 ?k1 ?k2 ?k3 ?k4 ?k5 ?k6 ?k7 ?k8 ?k9 ?_; (case k1 => k_asm); (case k2 => k_asm); (case k3 => k_asm); (case k4 => k_mem); (case k5 => k_is); (case k6 => kernel_rfl); (case k7 => k_is); (case k8 => k_is); (case k9 => intro zqd; k_upd); k_whole; intro zqdp zqhp zqFp zqNp zql1; (try k_lt zql1)) | (refine' exc_set_args ?k1 ?k2 ?k3 ?k4 ?k5 ?k6 ?k7 ?k8 ?k9 ?k10 ?_; (case k1 => k_asm); (case k2 => k_asm); (case k3 => k_asm); (case k4 => first | (refine' InstAt.of_exc ?N ?h1 ?h2; (case N => k_asm); (case h1 => k_mem); (case h2 => k_mem)) | (refine' InstAt.of_exc0 ?N ?h1; (case N => k_asm); (case h1 => k_mem))); (case k5 => exact isTup_of (by k_asm) (by k_mem)); (case k6 => k_is); (case k7 => kernel_rfl); (case k8 => k_is); (case k9 => k_is); (case k10 => k_upd); k_whole; intro zqhp zqFp zqNp) | (refine' exc_set ?k1 ?k2 ?k3 ?k4 ?k5 ?k6 ?k7 ?k8 ?k9 ?k10 ?k11 ?k12 ?_; (case k1 => k_asm); (case k2 => k_asm); (case k3 => k_asm); (case k4 => first | (refine' InstAt.of_exc ?N ?h1 ?h2; (case N => k_asm); (case h1 => k_mem); (case h2 => k_mem)) | (refine' InstAt.of_exc0 ?N ?h1; (case N => k_asm); (case h1 => k_mem))); (case k5 => k_is); (case k6 => kernel_rfl); (case k7 => k_is); (case k8 => k_is); (case k9 => k_get); (case k10 => k_put); (case k11 => k_upd); (case k12 => exact Nat.le_of_ble_eq_true rfl); k_whole; intro zqhp zqFp zqNp))))
  k_with "call builtin:Exception.__init__" => ((k_here; k_dflt (refine' exc_init_call ?k1 ?k2 ?k3 ?k4 ?k5 ?k6 ?_; (case k1 => k_asm); (case k2 => k_asm); (case k3 => k_asm); (case k4 => first | (refine' InstAt.of_exc ?N ?h1 ?h2; (case N => k_asm); (case h1 => k_mem); (case h2 => k_mem)) | (refine' InstAt.of_exc0 ?N ?h1; (case N => k_asm); (case h1 => k_mem))); (case k5 => k_is); (case k6 => intro zqt; k_upd); k_whole; intro zqtp zqhp zqFp zqNp zql1; (try k_lt zql1))))
  k_with "call builtin:repr" => ((k_here; k_dflt (refine' repr_use ?k1 ?k2 ?k3 ?k4 ?k5 ?k6 ?k7 ?_; (case k1 => assumption); (case k2 => k_asm); (case k3 => k_asm); (case k4 => exact rfl); (case k5 => exact rfl); (case k6 => exact Nat.le_of_ble_eq_true rfl); (case k7 => exact Nat.le_of_ble_eq_true rfl); k_whole; intro zqhp zqup zqtkp zqFp zqNp)))
  k_with "BackIn" => ((k_dflt (refine' back_ ?k1 ?k2 ?k3 ?_; (case k1 => k_asm); (case k2 => k_asm); (case k3 => walk_at "mine drop"); k_whole; intro zqFp zqNp; (try dsimp only))))
  k_with "call ref" => ((k_here; k_dflt (refine wpAny_call ?_; refine' enter_in ?k1 ?k2 ?k3 ?k4 ?k5 ?k6 ?k7 ?k8 ?kB ?c2 ?c3 ?c4 ?c5 ?_; (case k1 => k_asm); (case k2 => k_asm); (case k3 => k_asm); (case k4 => exact Top.nolimit (by assumption)); (case k5 => k_is); (case k6 => k_is); (case k7 => exact Nat.le_of_ble_eq_true rfl); (case k8 => first | ((with_reducible show BindsTo _ _ ⟨[_], []⟩ _); first | exact BindsTo.of_eq (binds := [(_, _)]) rfl | exact binds_K (binds := [(_, _)]) (by k_in) rfl (by k_is) rfl rfl rfl) | ((with_reducible show BindsTo _ _ ⟨[_, _], []⟩ _); first | exact BindsTo.of_eq (binds := [(_, _), (_, _)]) rfl | exact binds_K (binds := [(_, _), (_, _)]) (by k_in) rfl (by k_is) rfl rfl rfl) | ((with_reducible show BindsTo _ _ ⟨[_, _, _], []⟩ _); first | exact BindsTo.of_eq (binds := [(_, _), (_, _), (_, _)]) rfl | exact binds_K (binds := [(_, _), (_, _), (_, _)]) (by k_in) rfl (by k_is) rfl rfl rfl) | ((with_reducible show BindsTo _ _ ⟨[_, _, _, _], []⟩ _); first | exact BindsTo.of_eq (binds := [(_, _), (_, _), (_, _), (_, _)]) rfl | exact binds_K (binds := [(_, _), (_, _), (_, _), (_, _)]) (by k_in) rfl (by k_is) rfl rfl rfl) | ((with_reducible show BindsTo _ _ ⟨[_, _, _, _, _], []⟩ _); first | exact BindsTo.of_eq (binds := [(_, _), (_, _), (_, _), (_, _), (_, _)]) rfl | exact binds_K (binds := [(_, _), (_, _), (_, _), (_, _), (_, _)]) (by k_in) rfl (by k_is) rfl rfl rfl)); (case c5 => decide); (case kB => exact locs rfl); (case c2 => exact rfl); (case c3 => exact rfl); (case c4 => exact rfl); k_whole; intro zqoLp zqLp zqhp zqtkp zqFp zqNp zql1 zqn1; (try k_lt zql1); (try (replace zqn1 := allNe_of zqn1; simp only [AllNe, and_true] at zqn1)); (try dsimp only); walk_at "mine texts")))
  k_with "call builtin:str.join" => ((k_here; (with_reducible show wpAny _ _ (call (Value.builtin "str.join") [Value.str _ _, Value.ref _]) _ _ _); k_dflt (refine join_listC (by is_list) (by repeat constructor) (by decide) (by (simp only [List.map_cons, List.map_nil, List.sum_cons, List.sum_nil, List.length_cons, List.length_nil]; omega)) ?_); intro zqtp zqkp))
  k_with "getMethod type:Exception" => ((k_here; refine' method_type ?F ?X ?m (by decide +kernel) ?e ?h ?_; (case F => k_asm); (case X => k_asm); (case m => exact meta_Exception); (case e => k_dflt k_is); (case h => k_handed)))
  k_with "compareOp IsNot" => ((k_here; k_dflt (refine isNot_none (by assumption) ?_)))
  k_with "call builtin:str.format" => ((k_here; k_dflt (refine' line_use ?k1 ?k2 ?k3 ?k4 ?k5 ?k6 ?k7 ?_; (case k1 => assumption); (case k2 => k_asm); (case k3 => k_asm); (case k4 => exact rfl); (case k5 => exact rfl); (case k6 => exact Nat.le_of_ble_eq_true rfl); (case k7 => exact Nat.le_of_ble_eq_true rfl); k_whole; intro zqhp zqup zqtkp zqFp zqNp)))
  k_with "call builtin:str.format" => ((k_here; (with_reducible show wpAny _ _ (call (Value.builtin "str.format") [Value.str _ _, _, _, _, _]) _ _ _); k_dflt (refine' fmt_use ?k1 ?k2 ?k3 ?k4 ?k5 ?_; (case k1 => k_asm); (case k2 => k_asm); (case k3 => exact ⟨rfl, rfl, Nat.le_of_ble_eq_true rfl, Nat.le_of_ble_eq_true rfl⟩); (case k4 => exact args_5 _ _ _ _ _); (case k5 => walk_at "mine fmt")); k_whole; intro zqhp zqup zqtkp zqFp zqNp))
  k_with "pyReprObj" => ((k_here; k_dflt (refine' reprObj_use ?k1 ?k2 ?k3 ?k4 ?k5 ?k6 ?k7 ?_; (case k1 => assumption); (case k2 => k_asm); (case k3 => k_asm); (case k4 => exact rfl); (case k5 => exact rfl); (case k6 => exact Nat.le_of_ble_eq_true rfl); (case k7 => exact Nat.le_of_ble_eq_true rfl); k_whole; intro zqhp zqup zqtkp zqFp zqNp)))
  k_with "call ref" => ((k_here; (with_reducible show wpAny _ _ (call (Value.ref 196) [_]) _ _ _); k_dflt (refine' wr7_use ?k1 ?k2 ?k3 ?k4 ?k5 ?ka ?kb ?kc ?kd ?_; (case k1 => k_asm); (case k2 => k_asm); (case k3 => assumption); (case k4 => k_asm); (case k5 => assumption); (case ka => exact rfl); (case kb => exact rfl); (case kc => exact Nat.le_of_ble_eq_true rfl); (case kd => exact Nat.le_of_ble_eq_true rfl); k_whole; intro zqhp zqup zqtkp zqFp zqNp)))
  k_with "CompSrc" => ((k_here; k_dflt (refine LCg.CompSrc.ledger (by rfl) (by k_asm) (by k_asm) (by k_mem) (by first | size_fits | exact Nat.le_of_ble_eq_true rfl) ?_; intro zqgp; lcg_lit)))
  k_with "subscriptTail" => ((k_here; refine haltw_ ?_))
  k_with "eval ListComp" => ((k_here; k_dflt (refine LCg.ListComp_U (F₀ := by k_asm) (by with_unfolding_all rfl) (by decide) (by rfl) (by decide) (by rfl) ?_)))
  trivial
theorem words7 : ∀ {p : Program} {loose : List Str} {mean : ExcName → Option Value} {mg mb : Str → Option Value} (w : World) (s : Shared) (k : Int) (kt : Tok) (h0 : 0 ≤ k) (h6 : k < 6) (a b c : Value) (da db dc : PyData) (xa : V7 s.heap a da) (xb : V7 s.heap b db) (xc : V7 s.heap c dc)
    (Q E : Value → Shared → Prop) (KX : (hz.heap_193 w.params).In s.heap) (T : Top p loose mean mg mb s.heap)
    (hQ : ∀ h' tk (u : Tok), Grow s.heap h' → Q (.str (msg7 k.toNat da.shown db.shown dc.shown) u) { s with heap := h', toks := tk }),
    wpAny (model PySem.Challenge.rw_dm0028_07.prog w) (AD 550 1800) (call (.ref 201) [.int k kt, a, b, c]) Q E s := by
  w_top off
  k_fill
  intro p loose mean mg mb w s k kt h0 h6 a b c da db dc xa xb xc Q E KX T hQ
  obtain ⟨hh, g, dr, tk, os⟩ := s
  dsimp only at KX T xa xb xc hQ
  w_strict (
  refine wpAny_call ?_
  k_dflt (refine' enter_new (h₀ := hh) (binds := [("kind", .int k kt), ("a", a), ("b", b), ("c", c)]) (news := []) ?k1 ?k2 KX T.nolimit ?k9 ?k5 ?k6 ?k7 ?k8 ?kB ?c2 ?c3 ?c4 ?c5 ?_; (case k5 => k_is); (case k6 => k_is); (case k7 => exact Nat.le_of_ble_eq_true rfl); (case k8 => first | exact BindsTo.of_eq rfl | exact binds_K KX rfl (by k_is) rfl rfl rfl); (case c5 => decide); (case kB => exact locs rfl); (case c2 => exact rfl); (case c3 => exact rfl); (case c4 => exact rfl); (case k1 => exact fun _ _ e => e); (case k2 => exact Nat.le_refl _); (case k9 => exact List.forall_mem_nil _))
  intro L' h' tk' F' N' l1
  walk_at "mine texts"
  have sa : da.shown.length ≤ 26010 := xa.short
  have sb : db.shown.length ≤ 26010 := xb.short
  have sc : dc.shown.length ≤ 26010 := xc.short
  k_steps
  unfold Halt
  (with_reducible rename Fr _ _ _ _ => F3)
  (with_reducible rename News _ _ _ _ => N3)
  refine item_tmpK (News.isList N3 (.head _)) h0 (Nat.le_of_ble_eq_true rfl) (pick7 h0 h6 da.shown db.shown dc.shown _ _ _ _ _ _) ?_
  intro u9
  k_steps
  exact hQ _ _ _ F3.keep
)
end
section
theorem layV071 : True := by
  k_with_none
  k_with "ne" => (with_reducible (first | exact ns1 | exact ns2 | exact qlt (by assumption) | exact qgt (by assumption) | exact qne (by assumption) | exact qen (by assumption) | exact rlt (by assumption) | exact rgt (by assumption) | exact rne (by assumption) | exact ren (by assumption) | exact qlt (And.right (by assumption)) | exact qgt (And.right (by assumption)) | exact qne (And.right (by assumption)) | exact qen (And.right (by assumption)) | exact rlt (And.right (by assumption)) | exact rgt (And.right (by assumption)) | exact rne (And.right (by assumption)) | exact ren (And.right (by assumption)) | exact qlt (And.right (And.right (by assumption))) | exact qgt (And.right (And.right (by assumption))) | exact qne (And.right (And.right (by assumption))) | exact qen (And.right (And.right (by assumption))) | exact rlt (And.right (And.right (by assumption))) | exact rgt (And.right (And.right (by assumption))) | exact rne (And.right (And.right (by assumption))) | exact ren (And.right (And.right (by assumption))) | exact qlt (And.right (And.right (And.right (by assumption)))) | exact qgt (And.right (And.right (And.right (by assumption)))) | exact qne (And.right (And.right (And.right (by assumption)))) | exact qen (And.right (And.right (And.right (by assumption)))) | exact rlt (And.right (And.right (And.right (by assumption)))) | exact rgt (And.right (And.right (And.right (by assumption)))) | exact rne (And.right (And.right (And.right (by assumption)))) | exact ren (And.right (And.right (And.right (by assumption)))) | exact qlt (And.right (And.right (And.right (And.right (by assumption))))) | exact qgt (And.right (And.right (And.right (And.right (by assumption))))) | exact qne (And.right (And.right (And.right (And.right (by assumption))))) | exact qen (And.right (And.right (And.right (And.right (by assumption))))) | exact rlt (And.right (And.right (And.right (And.right (by assumption))))) | exact rgt (And.right (And.right (And.right (And.right (by assumption))))) | exact rne (And.right (And.right (And.right (And.right (by assumption))))) | exact ren (And.right (And.right (And.right (And.right (by assumption))))) | exact qlt (And.right (And.right (And.right (And.right (And.right (by assumption)))))) | exact qgt (And.right (And.right (And.right (And.right (And.right (by assumption)))))) | exact qne (And.right (And.right (And.right (And.right (And.right (by assumption)))))) | exact qen (And.right (And.right (And.right (And.right (And.right (by assumption)))))) | exact rlt (And.right (And.right (And.right (And.right (And.right (by assumption)))))) | exact rgt (And.right (And.right (And.right (And.right (And.right (by assumption)))))) | exact rne (And.right (And.right (And.right (And.right (And.right (by assumption)))))) | exact ren (And.right (And.right (And.right (And.right (And.right (by assumption)))))) | exact qlt (And.right (And.right (And.right (And.right (And.right (And.right (by assumption))))))) | exact qgt (And.right (And.right (And.right (And.right (And.right (And.right (by assumption))))))) | exact qne (And.right (And.right (And.right (And.right (And.right (And.right (by assumption))))))) | exact qen (And.right (And.right (And.right (And.right (And.right (And.right (by assumption))))))) | exact rlt (And.right (And.right (And.right (And.right (And.right (And.right (by assumption))))))) | exact rgt (And.right (And.right (And.right (And.right (And.right (And.right (by assumption))))))) | exact rne (And.right (And.right (And.right (And.right (And.right (And.right (by assumption))))))) | exact ren (And.right (And.right (And.right (And.right (And.right (And.right (by assumption))))))) | exact qlt (And.right (And.right (And.right (And.right (And.right (And.right (And.right (by assumption)))))))) | exact qgt (And.right (And.right (And.right (And.right (And.right (And.right (And.right (by assumption)))))))) | exact qne (And.right (And.right (And.right (And.right (And.right (And.right (And.right (by assumption)))))))) | exact qen (And.right (And.right (And.right (And.right (And.right (And.right (And.right (by assumption)))))))) | exact rlt (And.right (And.right (And.right (And.right (And.right (And.right (And.right (by assumption)))))))) | exact rgt (And.right (And.right (And.right (And.right (And.right (And.right (And.right (by assumption)))))))) | exact rne (And.right (And.right (And.right (And.right (And.right (And.right (And.right (by assumption)))))))) | exact ren (And.right (And.right (And.right (And.right (And.right (And.right (And.right (by assumption)))))))) | exact qlt (And.right (And.right (And.right (And.right (And.right (And.right (And.right (And.right (by assumption))))))))) | exact qgt (And.right (And.right (And.right (And.right (And.right (And.right (And.right (And.right (by assumption))))))))) | exact qne (And.right (And.right (And.right (And.right (And.right (And.right (And.right (And.right (by assumption))))))))) | exact qen (And.right (And.right (And.right (And.right (And.right (And.right (And.right (And.right (by assumption))))))))) | exact rlt (And.right (And.right (And.right (And.right (And.right (And.right (And.right (And.right (by assumption))))))))) | exact rgt (And.right (And.right (And.right (And.right (And.right (And.right (And.right (And.right (by assumption))))))))) | exact rne (And.right (And.right (And.right (And.right (And.right (And.right (And.right (And.right (by assumption))))))))) | exact ren (And.right (And.right (And.right (And.right (And.right (And.right (And.right (And.right (by assumption))))))))) | exact qlt (And.right (And.right (And.right (And.right (And.right (And.right (And.right (And.right (And.right (by assumption)))))))))) | exact qgt (And.right (And.right (And.right (And.right (And.right (And.right (And.right (And.right (And.right (by assumption)))))))))) | exact qne (And.right (And.right (And.right (And.right (And.right (And.right (And.right (And.right (And.right (by assumption)))))))))) | exact qen (And.right (And.right (And.right (And.right (And.right (And.right (And.right (And.right (And.right (by assumption)))))))))) | exact rlt (And.right (And.right (And.right (And.right (And.right (And.right (And.right (And.right (And.right (by assumption)))))))))) | exact rgt (And.right (And.right (And.right (And.right (And.right (And.right (And.right (And.right (And.right (by assumption)))))))))) | exact rne (And.right (And.right (And.right (And.right (And.right (And.right (And.right (And.right (And.right (by assumption)))))))))) | exact ren (And.right (And.right (And.right (And.right (And.right (And.right (And.right (And.right (And.right (by assumption)))))))))) | exact qlt (And.right (And.right (And.right (And.right (And.right (And.right (And.right (And.right (And.right (And.right (by assumption))))))))))) | exact qgt (And.right (And.right (And.right (And.right (And.right (And.right (And.right (And.right (And.right (And.right (by assumption))))))))))) | exact qne (And.right (And.right (And.right (And.right (And.right (And.right (And.right (And.right (And.right (And.right (by assumption))))))))))) | exact qen (And.right (And.right (And.right (And.right (And.right (And.right (And.right (And.right (And.right (And.right (by assumption))))))))))) | exact rlt (And.right (And.right (And.right (And.right (And.right (And.right (And.right (And.right (And.right (And.right (by assumption))))))))))) | exact rgt (And.right (And.right (And.right (And.right (And.right (And.right (And.right (And.right (And.right (And.right (by assumption))))))))))) | exact rne (And.right (And.right (And.right (And.right (And.right (And.right (And.right (And.right (And.right (And.right (by assumption))))))))))) | exact ren (And.right (And.right (And.right (And.right (And.right (And.right (And.right (And.right (And.right (And.right (by assumption))))))))))) | exact qlt (And.right (And.right (And.right (And.right (And.right (And.right (And.right (And.right (And.right (And.right (And.right (by assumption)))))))))))) | exact qgt (And.right (And.right (And.right (And.right (And.right (And.right (And.right (And.right (And.right (And.right (And.right (by assumption)))))))))))) | exact qne (And.right (And.right (And.right (And.right (And.right (And.right (And.right (And.right (And.right (And.right (And.right (by assumption)))))))))))) | exact qen (And.right (And.right (And.right (And.right (And.right (And.right (And.right (And.right (And.right (And.right (And.right (by assumption)))))))))))) | exact rlt (And.right (And.right (And.right (And.right (And.right (And.right (And.right (And.right (And.right (And.right (And.right (by assumption)))))))))))) | exact rgt (And.right (And.right (And.right (And.right (And.right (And.right (And.right (And.right (And.right (And.right (And.right (by assumption)))))))))))) | exact rne (And.right (And.right (And.right (And.right (And.right (And.right (And.right (And.right (And.right (And.right (And.right (by assumption)))))))))))) | exact ren (And.right (And.right (And.right (And.right (And.right (And.right (And.right (And.right (And.right (And.right (And.right (by assumption)))))))))))) | exact qlt (And.right (And.right (And.right (And.right (And.right (And.right (And.right (And.right (And.right (And.right (And.right (And.right (by assumption))))))))))))) | exact qgt (And.right (And.right (And.right (And.right (And.right (And.right (And.right (And.right (And.right (And.right (And.right (And.right (by assumption))))))))))))) | exact qne (And.right (And.right (And.right (And.right (And.right (And.right (And.right (And.right (And.right (And.right (And.right (And.right (by assumption))))))))))))) | exact qen (And.right (And.right (And.right (And.right (And.right (And.right (And.right (And.right (And.right (And.right (And.right (And.right (by assumption))))))))))))) | exact rlt (And.right (And.right (And.right (And.right (And.right (And.right (And.right (And.right (And.right (And.right (And.right (And.right (by assumption))))))))))))) | exact rgt (And.right (And.right (And.right (And.right (And.right (And.right (And.right (And.right (And.right (And.right (And.right (And.right (by assumption))))))))))))) | exact rne (And.right (And.right (And.right (And.right (And.right (And.right (And.right (And.right (And.right (And.right (And.right (And.right (by assumption))))))))))))) | exact ren (And.right (And.right (And.right (And.right (And.right (And.right (And.right (And.right (And.right (And.right (And.right (And.right (by assumption))))))))))))) | exact qlt (And.right (And.right (And.right (And.right (And.right (And.right (And.right (And.right (And.right (And.right (And.right (And.right (And.right (by assumption)))))))))))))) | exact qgt (And.right (And.right (And.right (And.right (And.right (And.right (And.right (And.right (And.right (And.right (And.right (And.right (And.right (by assumption)))))))))))))) | exact qne (And.right (And.right (And.right (And.right (And.right (And.right (And.right (And.right (And.right (And.right (And.right (And.right (And.right (by assumption)))))))))))))) | exact qen (And.right (And.right (And.right (And.right (And.right (And.right (And.right (And.right (And.right (And.right (And.right (And.right (And.right (by assumption)))))))))))))) | exact rlt (And.right (And.right (And.right (And.right (And.right (And.right (And.right (And.right (And.right (And.right (And.right (And.right (And.right (by assumption)))))))))))))) | exact rgt (And.right (And.right (And.right (And.right (And.right (And.right (And.right (And.right (And.right (And.right (And.right (And.right (And.right (by assumption)))))))))))))) | exact rne (And.right (And.right (And.right (And.right (And.right (And.right (And.right (And.right (And.right (And.right (And.right (And.right (And.right (by assumption)))))))))))))) | exact ren (And.right (And.right (And.right (And.right (And.right (And.right (And.right (And.right (And.right (And.right (And.right (And.right (And.right (by assumption)))))))))))))) | exact qlt (And.right (And.right (And.right (And.right (And.right (And.right (And.right (And.right (And.right (And.right (And.right (And.right (And.right (And.right (by assumption))))))))))))))) | exact qgt (And.right (And.right (And.right (And.right (And.right (And.right (And.right (And.right (And.right (And.right (And.right (And.right (And.right (And.right (by assumption))))))))))))))) | exact qne (And.right (And.right (And.right (And.right (And.right (And.right (And.right (And.right (And.right (And.right (And.right (And.right (And.right (And.right (by assumption))))))))))))))) | exact qen (And.right (And.right (And.right (And.right (And.right (And.right (And.right (And.right (And.right (And.right (And.right (And.right (And.right (And.right (by assumption))))))))))))))) | exact rlt (And.right (And.right (And.right (And.right (And.right (And.right (And.right (And.right (And.right (And.right (And.right (And.right (And.right (And.right (by assumption))))))))))))))) | exact rgt (And.right (And.right (And.right (And.right (And.right (And.right (And.right (And.right (And.right (And.right (And.right (And.right (And.right (And.right (by assumption))))))))))))))) | exact rne (And.right (And.right (And.right (And.right (And.right (And.right (And.right (And.right (And.right (And.right (And.right (And.right (And.right (And.right (by assumption))))))))))))))) | exact ren (And.right (And.right (And.right (And.right (And.right (And.right (And.right (And.right (And.right (And.right (And.right (And.right (And.right (And.right (by assumption))))))))))))))) | exact qlt (And.right (And.right (And.right (And.right (And.right (And.right (And.right (And.right (And.right (And.right (And.right (And.right (And.right (And.right (And.right (by assumption)))))))))))))))) | exact qgt (And.right (And.right (And.right (And.right (And.right (And.right (And.right (And.right (And.right (And.right (And.right (And.right (And.right (And.right (And.right (by assumption)))))))))))))))) | exact qne (And.right (And.right (And.right (And.right (And.right (And.right (And.right (And.right (And.right (And.right (And.right (And.right (And.right (And.right (And.right (by assumption)))))))))))))))) | exact qen (And.right (And.right (And.right (And.right (And.right (And.right (And.right (And.right (And.right (And.right (And.right (And.right (And.right (And.right (And.right (by assumption)))))))))))))))) | exact rlt (And.right (And.right (And.right (And.right (And.right (And.right (And.right (And.right (And.right (And.right (And.right (And.right (And.right (And.right (And.right (by assumption)))))))))))))))) | exact rgt (And.right (And.right (And.right (And.right (And.right (And.right (And.right (And.right (And.right (And.right (And.right (And.right (And.right (And.right (And.right (by assumption)))))))))))))))) | exact rne (And.right (And.right (And.right (And.right (And.right (And.right (And.right (And.right (And.right (And.right (And.right (And.right (And.right (And.right (And.right (by assumption)))))))))))))))) | exact ren (And.right (And.right (And.right (And.right (And.right (And.right (And.right (And.right (And.right (And.right (And.right (And.right (And.right (And.right (And.right (by assumption))))))))))))))))))
  trivial
theorem layV072 : True := by
  k_with "mine texts" => ((try dsimp only [← sx0, ← sx1, ← sx2, ← sx3, ← sx4, ← sx5, ← sx6, ← sx7, ← sx8, ← sx9, ← sx10, ← sx11, ← sx12, ← sx13, ← sx14, ← sx15, ← sx16, ← sx17, ← sx18, ← sx19, ← sx20, ← sx21, ← sx22, ← sx23, ← sx24, ← sx25, ← sx26, ← sx27, ← sx28, ← sx29, ← sx30, ← sx31, ← sx32, ← sx33, ← sx34, ← sx35, ← sx36, ← sx37, ← sx38, ← sx39, ← sx40, ← sx41, ← sx42, ← sx43, ← sx44, ← sx45, ← sx46, ← sx47, ← sx48, ← sx49, ← sx50, ← sx51, ← sx52, ← sx53, ← sx54, ← sx55, ← sx56, ← sx57, ← sx58, ← sx59, ← sx60, ← sx61, ← sx62, ← sx63, ← sx64, ← sx65, ← sx66, ← sx67, ← sx68, ← sx69, ← sx70, ← sx71, ← sx72, ← sx73, ← sx74, ← sx75, ← sx76, ← sx77, ← sx78, ← sx79, ← sx80, ← sx81, ← sx82, ← sx83, ← sx84, ← sx85, ← sx86, ← sx87, ← sx88, ← sx89, ← sx90, ← sx91, ← sx92, ← sx93, ← sx94, ← sx95, ← sx96, ← sx97, ← sx98, ← sx99, ← sx100, ← sx101, ← sx102, ← sx103, ← sx104, ← sx105, ← sx106, ← sx107, ← sx108, ← sx109]))
  k_with "mine drop" => (first | (refine' Drop.head ?a; (case a => k_all)) | (refine' Drop.tail ?a ?b; (case a => k_ne); (case b => walk_at "mine drop")))
  k_with "setAttr ref" => ((k_here; k_dflt (first | (refine' exc_set0 ?k1 ?k2 ?k3 ?k4 ?k5 ?k6 ?k7 ?k8 ?k9 ?_; (case k1 => k_asm); (case k2 => k_asm); (case k3 => k_asm); (case k4 => k_mem); (case k5 => k_is); (case k6 => kernel_rfl); (case k7 => k_is); (case k8 => k_is); (case k9 => intro zqd; k_upd); k_whole; intro zqdp zqhp zqFp zqNp zql1; (try k_lt zql1)) | (refine' exc_set_args ?k1 ?k2 ?k3 ?k4 ?k5 ?k6 ?k7 ?k8 ?k9 ?k10 ?_; (case k1 => k_asm); (case k2 => k_asm); (case k3 => k_asm); (case k4 => first | (refine' InstAt.of_exc ?N ?h1 ?h2; (case N => k_asm); (case h1 => k_mem); (case h2 => k_mem)) | (refine' InstAt.of_exc0 ?N ?h1; (case N => k_asm); (case h1 => k_mem))); (case k5 => exact isTup_of (by k_asm) (by k_mem)); (case k6 => k_is); (case k7 => kernel_rfl); (case k8 => k_is); (case k9 => k_is); (case k10 => k_upd); k_whole; intro zqhp zqFp zqNp) | (refine' exc_set ?k1 ?k2 ?k3 ?k4 ?k5 ?k6 ?k7 ?k8 ?k9 ?k10 ?k11 ?k12 ?_; (case k1 => k_asm); (case k2 => k_asm); (case k3 => k_asm); (case k4 => first | (refine' InstAt.of_exc ?N ?h1 ?h2; (case N => k_asm); (case h1 => k_mem); (case h2 => k_mem)) | (refine' InstAt.of_exc0 ?N ?h1; (case N => k_asm); (case h1 => k_mem))); (case k5 => k_is); (case k6 => kernel_rfl); (case k7 => k_is); (case k8 => k_is); (case k9 => k_get); (case k10 => k_put); (case k11 => k_upd); (case k12 => exact Nat.le_of_ble_eq_true rfl); k_whole; intro zqhp zqFp zqNp))))
  k_with "call builtin:Exception.__init__" => ((k_here; k_dflt (refine' exc_init_call ?k1 ?k2 ?k3 ?k4 ?k5 ?k6 ?_; (case k1 => k_asm); (case k2 => k_asm); (case k3 => k_asm); (case k4 => first | (refine' InstAt.of_exc ?N ?h1 ?h2; (case N => k_asm); (case h1 => k_mem); (case h2 => k_mem)) | (refine' InstAt.of_exc0 ?N ?h1; (case N => k_asm); (case h1 => k_mem))); (case k5 => k_is); (case k6 => intro zqt; k_upd); k_whole; intro zqtp zqhp zqFp zqNp zql1; (try k_lt zql1))))
  k_with "call builtin:repr" => ((k_here; k_dflt (refine' repr_use ?k1 ?k2 ?k3 ?k4 ?k5 ?k6 ?k7 ?_; (case k1 => assumption); (case k2 => k_asm); (case k3 => k_asm); (case k4 => exact rfl); (case k5 => exact rfl); (case k6 => exact Nat.le_of_ble_eq_true rfl); (case k7 => exact Nat.le_of_ble_eq_true rfl); k_whole; intro zqhp zqup zqtkp zqFp zqNp)))
  k_with "BackIn" => ((k_dflt (refine' back_ ?k1 ?k2 ?k3 ?_; (case k1 => k_asm); (case k2 => k_asm); (case k3 => walk_at "mine drop"); k_whole; intro zqFp zqNp; (try dsimp only))))
  k_with "call ref" => ((k_here; k_dflt (refine wpAny_call ?_; refine' enter_in ?k1 ?k2 ?k3 ?k4 ?k5 ?k6 ?k7 ?k8 ?kB ?c2 ?c3 ?c4 ?c5 ?_; (case k1 => k_asm); (case k2 => k_asm); (case k3 => k_asm); (case k4 => exact Top.nolimit (by assumption)); (case k5 => k_is); (case k6 => k_is); (case k7 => exact Nat.le_of_ble_eq_true rfl); (case k8 => first | ((with_reducible show BindsTo _ _ ⟨[_], []⟩ _); first | exact BindsTo.of_eq (binds := [(_, _)]) rfl | exact binds_K (binds := [(_, _)]) (by k_in) rfl (by k_is) rfl rfl rfl) | ((with_reducible show BindsTo _ _ ⟨[_, _], []⟩ _); first | exact BindsTo.of_eq (binds := [(_, _), (_, _)]) rfl | exact binds_K (binds := [(_, _), (_, _)]) (by k_in) rfl (by k_is) rfl rfl rfl) | ((with_reducible show BindsTo _ _ ⟨[_, _, _], []⟩ _); first | exact BindsTo.of_eq (binds := [(_, _), (_, _), (_, _)]) rfl | exact binds_K (binds := [(_, _), (_, _), (_, _)]) (by k_in) rfl (by k_is) rfl rfl rfl) | ((with_reducible show BindsTo _ _ ⟨[_, _, _, _], []⟩ _); first | exact BindsTo.of_eq (binds := [(_, _), (_, _), (_, _), (_, _)]) rfl | exact binds_K (binds := [(_, _), (_, _), (_, _), (_, _)]) (by k_in) rfl (by k_is) rfl rfl rfl) | ((with_reducible show BindsTo _ _ ⟨[_, _, _, _, _], []⟩ _); first | exact BindsTo.of_eq (binds := [(_, _), (_, _), (_, _), (_, _), (_, _)]) rfl | exact binds_K (binds := [(_, _), (_, _), (_, _), (_, _), (_, _)]) (by k_in) rfl (by k_is) rfl rfl rfl)); (case c5 => decide); (case kB => exact locs rfl); (case c2 => exact rfl); (case c3 => exact rfl); (case c4 => exact rfl); k_whole; intro zqoLp zqLp zqhp zqtkp zqFp zqNp zql1 zqn1; (try k_lt zql1); (try (replace zqn1 := allNe_of zqn1; simp only [AllNe, and_true] at zqn1)); (try dsimp only); walk_at "mine texts")))
  k_with "call builtin:str.join" => ((k_here; (with_reducible show wpAny _ _ (call (Value.builtin "str.join") [Value.str _ _, Value.ref _]) _ _ _); k_dflt (refine join_listC (by is_list) (by repeat constructor) (by decide) (by (simp only [List.map_cons, List.map_nil, List.sum_cons, List.sum_nil, List.length_cons, List.length_nil]; omega)) ?_); intro zqtp zqkp))
  k_with "getMethod type:Exception" => ((k_here; refine' method_type ?F ?X ?m (by decide +kernel) ?e ?h ?_; (case F => k_asm); (case X => k_asm); (case m => exact meta_Exception); (case e => k_dflt k_is); (case h => k_handed)))
  k_with "compareOp IsNot" => ((k_here; k_dflt (refine isNot_none (by assumption) ?_)))
  k_with "call builtin:str.format" => ((k_here; k_dflt (refine' line_use ?k1 ?k2 ?k3 ?k4 ?k5 ?k6 ?k7 ?_; (case k1 => assumption); (case k2 => k_asm); (case k3 => k_asm); (case k4 => exact rfl); (case k5 => exact rfl); (case k6 => exact Nat.le_of_ble_eq_true rfl); (case k7 => exact Nat.le_of_ble_eq_true rfl); k_whole; intro zqhp zqup zqtkp zqFp zqNp)))
  k_with "call builtin:str.format" => ((k_here; (with_reducible show wpAny _ _ (call (Value.builtin "str.format") [Value.str _ _, _, _, _, _]) _ _ _); k_dflt (refine' fmt_use ?k1 ?k2 ?k3 ?k4 ?k5 ?_; (case k1 => k_asm); (case k2 => k_asm); (case k3 => exact ⟨rfl, rfl, Nat.le_of_ble_eq_true rfl, Nat.le_of_ble_eq_true rfl⟩); (case k4 => exact args_5 _ _ _ _ _); (case k5 => walk_at "mine fmt")); k_whole; intro zqhp zqup zqtkp zqFp zqNp))
  k_with "pyReprObj" => ((k_here; k_dflt (refine' reprObj_use ?k1 ?k2 ?k3 ?k4 ?k5 ?k6 ?k7 ?_; (case k1 => assumption); (case k2 => k_asm); (case k3 => k_asm); (case k4 => exact rfl); (case k5 => exact rfl); (case k6 => exact Nat.le_of_ble_eq_true rfl); (case k7 => exact Nat.le_of_ble_eq_true rfl); k_whole; intro zqhp zqup zqtkp zqFp zqNp)))
  trivial
set_option pp.deepTerms false
set_option pp.deepTerms.threshold 14
set_option pp.proofs false
theorem layV073 : True := by
  k_with "call builtin:isinstance" => ((k_here; refine haltw_ ?_))
  k_with "subscriptTail" => ((k_here; refine haltw_ ?_))
  k_with "compareOp" => ((k_here; refine haltw_ ?_))
  trivial
theorem very7_s : ∀ {p : Program} {loose : List Str} {mean : ExcName → Option Value} {mg mb : Str → Option Value} (w : World) (s : Shared) (t u : Tok)
    (Q E : Value → Shared → Prop) (KX : (hz.heap_193 w.params).In s.heap) (T : Top p loose mean mg mb s.heap)
    (hQ : ∀ h' tk , Grow s.heap h' → Q (.bool true) { s with heap := h', toks := tk }),
    wpAny (model PySem.Challenge.rw_dm0028_07.prog w) (AD 600 2000) (call (.ref 208) [.str its7 t, .str its7 u]) Q E s := by
  w_top off
  k_fill
  intro p loose mean mg mb w s t u Q E KX T hQ
  obtain ⟨hh, g, dr, tk, os⟩ := s
  dsimp only at KX T  hQ
  w_strict (
  refine wpAny_call ?_
  k_dflt (refine' enter_new (h₀ := hh) (binds := [("one", .str its7 t), ("name", .str its7 u)]) (news := []) ?k1 ?k2 KX T.nolimit ?k9 ?k5 ?k6 ?k7 ?k8 ?kB ?c2 ?c3 ?c4 ?c5 ?_; (case k5 => k_is); (case k6 => k_is); (case k7 => exact Nat.le_of_ble_eq_true rfl); (case k8 => first | exact BindsTo.of_eq rfl | exact binds_K KX rfl (by k_is) rfl rfl rfl); (case c5 => decide); (case kB => exact locs rfl); (case c2 => exact rfl); (case c3 => exact rfl); (case c4 => exact rfl); (case k1 => exact fun _ _ e => e); (case k2 => exact Nat.le_refl _); (case k9 => exact List.forall_mem_nil _))
  intro L' h' tk' F' N' l1
  walk_at "mine texts"
  k_steps
  unfold Halt
  refine kia_one (K := hz.heap_193 w.params) kitx_str (Frag.In.keeps KX (Fr.keep (by k_asm))) trivial (by kernel_rfl : kitOne _ (.type "str") (.type "list") = some false) (by intro q; cases q) ?_
  intro tk1
  dsimp only
  k_steps
  exact hQ _ _ (Fr.keep (by k_asm)))
theorem very7_l : ∀ {p : Program} {loose : List Str} {mean : ExcName → Option Value} {mg mb : Str → Option Value} (w : World) (s : Shared) (a : Addr) (vs : Array Value) (n : Nat) (ha : s.heap.get? a = some (listOf vs n))
    (Q E : Value → Shared → Prop) (KX : (hz.heap_193 w.params).In s.heap) (T : Top p loose mean mg mb s.heap)
    (hQ : ∀ h' tk , Grow s.heap h' → Q (.bool true) { s with heap := h', toks := tk }),
    wpAny (model PySem.Challenge.rw_dm0028_07.prog w) (AD 600 2000) (call (.ref 208) [.ref a, .ref a]) Q E s := by
  w_top off
  k_fill
  intro p loose mean mg mb w s a vs n ha Q E KX T hQ
  obtain ⟨hh, g, dr, tk, os⟩ := s
  dsimp only at KX T ha hQ
  w_strict (
  refine wpAny_call ?_
  k_dflt (refine' enter_new (h₀ := hh) (binds := [("one", .ref a), ("name", .ref a)]) (news := []) ?k1 ?k2 KX T.nolimit ?k9 ?k5 ?k6 ?k7 ?k8 ?kB ?c2 ?c3 ?c4 ?c5 ?_; (case k5 => k_is); (case k6 => k_is); (case k7 => exact Nat.le_of_ble_eq_true rfl); (case k8 => first | exact BindsTo.of_eq rfl | exact binds_K KX rfl (by k_is) rfl rfl rfl); (case c5 => decide); (case kB => exact locs rfl); (case c2 => exact rfl); (case c3 => exact rfl); (case c4 => exact rfl); (case k1 => exact fun _ _ e => e); (case k2 => exact Nat.le_refl _); (case k9 => exact List.forall_mem_nil _))
  intro L' h' tk' F' N' l1
  walk_at "mine texts"
  k_steps
  unfold Halt
  refine kia_one (K := hz.heap_193 w.params) kitx_list (Frag.In.keeps KX (Fr.keep (by k_asm))) ⟨_, Fr.keep (by k_asm) _ _ ha, rfl⟩ (by kernel_rfl : kitOne _ (.type "list") (.type "list") = some true) (by intro q; cases q) ?_
  intro tk1
  dsimp only
  k_steps
  exact hQ _ _ (Fr.keep (by k_asm)))
theorem very7_t : ∀ {p : Program} {loose : List Str} {mean : ExcName → Option Value} {mg mb : Str → Option Value} (w : World) (s : Shared) (a b : Addr) (ha : s.heap.get? b = some (tupObj [.ref a]))
    (Q E : Value → Shared → Prop) (KX : (hz.heap_193 w.params).In s.heap) (T : Top p loose mean mg mb s.heap)
    (hQ : ∀ h' tk , Grow s.heap h' → Q (.bool true) { s with heap := h', toks := tk }),
    wpAny (model PySem.Challenge.rw_dm0028_07.prog w) (AD 600 2000) (call (.ref 208) [.ref b, .ref b]) Q E s := by
  w_top off
  k_fill
  intro p loose mean mg mb w s a b ha Q E KX T hQ
  obtain ⟨hh, g, dr, tk, os⟩ := s
  dsimp only at KX T ha hQ
  w_strict (
  refine wpAny_call ?_
  k_dflt (refine' enter_new (h₀ := hh) (binds := [("one", .ref b), ("name", .ref b)]) (news := []) ?k1 ?k2 KX T.nolimit ?k9 ?k5 ?k6 ?k7 ?k8 ?kB ?c2 ?c3 ?c4 ?c5 ?_; (case k5 => k_is); (case k6 => k_is); (case k7 => exact Nat.le_of_ble_eq_true rfl); (case k8 => first | exact BindsTo.of_eq rfl | exact binds_K KX rfl (by k_is) rfl rfl rfl); (case c5 => decide); (case kB => exact locs rfl); (case c2 => exact rfl); (case c3 => exact rfl); (case c4 => exact rfl); (case k1 => exact fun _ _ e => e); (case k2 => exact Nat.le_refl _); (case k9 => exact List.forall_mem_nil _))
  intro L' h' tk' F' N' l1
  walk_at "mine texts"
  k_steps
  unfold Halt
  refine kia_one (K := hz.heap_193 w.params) kitx_tuple (Frag.In.keeps KX (Fr.keep (by k_asm))) ⟨_, Fr.keep (by k_asm) _ _ ha, rfl⟩ (by kernel_rfl : kitOne _ (.type "tuple") (.type "list") = some false) (by intro q; cases q) ?_
  intro tk1
  dsimp only
  k_steps
  unfold Halt
  (with_reducible rename Fr _ _ _ _ => F3)
  (with_reducible rename News _ _ _ _ => N3)
  refine eq_tup_same (F3.keep _ _ ha) (Nat.le_of_ble_eq_true rfl) ?_
  dsimp only
  k_steps
  unfold Halt
  refine eq_tup_str (F3.keep _ _ ha) (Nat.le_of_ble_eq_true rfl) ?_
  dsimp only
  k_steps
  refine item_tupH (xs := [.ref a]) 0 rfl (F3.keep _ _ ha) rfl (Nat.le_of_ble_eq_true rfl) ?_
  dsimp only
  k_steps
  unfold Halt
  refine item_tupH (xs := [.ref a]) 0 rfl (F3.keep _ _ ha) rfl (Nat.le_of_ble_eq_true rfl) ?_
  dsimp only
  k_steps
  exact hQ _ _ (Fr.keep (by k_asm)))
end
section
theorem layH071 : True := by
  k_with_none
  k_with "ne" => (with_reducible (first | exact ns1 | exact ns2 | exact qlt (by assumption) | exact qgt (by assumption) | exact qne (by assumption) | exact qen (by assumption) | exact rlt (by assumption) | exact rgt (by assumption) | exact rne (by assumption) | exact ren (by assumption) | exact qlt (And.right (by assumption)) | exact qgt (And.right (by assumption)) | exact qne (And.right (by assumption)) | exact qen (And.right (by assumption)) | exact rlt (And.right (by assumption)) | exact rgt (And.right (by assumption)) | exact rne (And.right (by assumption)) | exact ren (And.right (by assumption)) | exact qlt (And.right (And.right (by assumption))) | exact qgt (And.right (And.right (by assumption))) | exact qne (And.right (And.right (by assumption))) | exact qen (And.right (And.right (by assumption))) | exact rlt (And.right (And.right (by assumption))) | exact rgt (And.right (And.right (by assumption))) | exact rne (And.right (And.right (by assumption))) | exact ren (And.right (And.right (by assumption))) | exact qlt (And.right (And.right (And.right (by assumption)))) | exact qgt (And.right (And.right (And.right (by assumption)))) | exact qne (And.right (And.right (And.right (by assumption)))) | exact qen (And.right (And.right (And.right (by assumption)))) | exact rlt (And.right (And.right (And.right (by assumption)))) | exact rgt (And.right (And.right (And.right (by assumption)))) | exact rne (And.right (And.right (And.right (by assumption)))) | exact ren (And.right (And.right (And.right (by assumption)))) | exact qlt (And.right (And.right (And.right (And.right (by assumption))))) | exact qgt (And.right (And.right (And.right (And.right (by assumption))))) | exact qne (And.right (And.right (And.right (And.right (by assumption))))) | exact qen (And.right (And.right (And.right (And.right (by assumption))))) | exact rlt (And.right (And.right (And.right (And.right (by assumption))))) | exact rgt (And.right (And.right (And.right (And.right (by assumption))))) | exact rne (And.right (And.right (And.right (And.right (by assumption))))) | exact ren (And.right (And.right (And.right (And.right (by assumption))))) | exact qlt (And.right (And.right (And.right (And.right (And.right (by assumption)))))) | exact qgt (And.right (And.right (And.right (And.right (And.right (by assumption)))))) | exact qne (And.right (And.right (And.right (And.right (And.right (by assumption)))))) | exact qen (And.right (And.right (And.right (And.right (And.right (by assumption)))))) | exact rlt (And.right (And.right (And.right (And.right (And.right (by assumption)))))) | exact rgt (And.right (And.right (And.right (And.right (And.right (by assumption)))))) | exact rne (And.right (And.right (And.right (And.right (And.right (by assumption)))))) | exact ren (And.right (And.right (And.right (And.right (And.right (by assumption)))))) | exact qlt (And.right (And.right (And.right (And.right (And.right (And.right (by assumption))))))) | exact qgt (And.right (And.right (And.right (And.right (And.right (And.right (by assumption))))))) | exact qne (And.right (And.right (And.right (And.right (And.right (And.right (by assumption))))))) | exact qen (And.right (And.right (And.right (And.right (And.right (And.right (by assumption))))))) | exact rlt (And.right (And.right (And.right (And.right (And.right (And.right (by assumption))))))) | exact rgt (And.right (And.right (And.right (And.right (And.right (And.right (by assumption))))))) | exact rne (And.right (And.right (And.right (And.right (And.right (And.right (by assumption))))))) | exact ren (And.right (And.right (And.right (And.right (And.right (And.right (by assumption))))))) | exact qlt (And.right (And.right (And.right (And.right (And.right (And.right (And.right (by assumption)))))))) | exact qgt (And.right (And.right (And.right (And.right (And.right (And.right (And.right (by assumption)))))))) | exact qne (And.right (And.right (And.right (And.right (And.right (And.right (And.right (by assumption)))))))) | exact qen (And.right (And.right (And.right (And.right (And.right (And.right (And.right (by assumption)))))))) | exact rlt (And.right (And.right (And.right (And.right (And.right (And.right (And.right (by assumption)))))))) | exact rgt (And.right (And.right (And.right (And.right (And.right (And.right (And.right (by assumption)))))))) | exact rne (And.right (And.right (And.right (And.right (And.right (And.right (And.right (by assumption)))))))) | exact ren (And.right (And.right (And.right (And.right (And.right (And.right (And.right (by assumption)))))))) | exact qlt (And.right (And.right (And.right (And.right (And.right (And.right (And.right (And.right (by assumption))))))))) | exact qgt (And.right (And.right (And.right (And.right (And.right (And.right (And.right (And.right (by assumption))))))))) | exact qne (And.right (And.right (And.right (And.right (And.right (And.right (And.right (And.right (by assumption))))))))) | exact qen (And.right (And.right (And.right (And.right (And.right (And.right (And.right (And.right (by assumption))))))))) | exact rlt (And.right (And.right (And.right (And.right (And.right (And.right (And.right (And.right (by assumption))))))))) | exact rgt (And.right (And.right (And.right (And.right (And.right (And.right (And.right (And.right (by assumption))))))))) | exact rne (And.right (And.right (And.right (And.right (And.right (And.right (And.right (And.right (by assumption))))))))) | exact ren (And.right (And.right (And.right (And.right (And.right (And.right (And.right (And.right (by assumption))))))))) | exact qlt (And.right (And.right (And.right (And.right (And.right (And.right (And.right (And.right (And.right (by assumption)))))))))) | exact qgt (And.right (And.right (And.right (And.right (And.right (And.right (And.right (And.right (And.right (by assumption)))))))))) | exact qne (And.right (And.right (And.right (And.right (And.right (And.right (And.right (And.right (And.right (by assumption)))))))))) | exact qen (And.right (And.right (And.right (And.right (And.right (And.right (And.right (And.right (And.right (by assumption)))))))))) | exact rlt (And.right (And.right (And.right (And.right (And.right (And.right (And.right (And.right (And.right (by assumption)))))))))) | exact rgt (And.right (And.right (And.right (And.right (And.right (And.right (And.right (And.right (And.right (by assumption)))))))))) | exact rne (And.right (And.right (And.right (And.right (And.right (And.right (And.right (And.right (And.right (by assumption)))))))))) | exact ren (And.right (And.right (And.right (And.right (And.right (And.right (And.right (And.right (And.right (by assumption)))))))))) | exact qlt (And.right (And.right (And.right (And.right (And.right (And.right (And.right (And.right (And.right (And.right (by assumption))))))))))) | exact qgt (And.right (And.right (And.right (And.right (And.right (And.right (And.right (And.right (And.right (And.right (by assumption))))))))))) | exact qne (And.right (And.right (And.right (And.right (And.right (And.right (And.right (And.right (And.right (And.right (by assumption))))))))))) | exact qen (And.right (And.right (And.right (And.right (And.right (And.right (And.right (And.right (And.right (And.right (by assumption))))))))))) | exact rlt (And.right (And.right (And.right (And.right (And.right (And.right (And.right (And.right (And.right (And.right (by assumption))))))))))) | exact rgt (And.right (And.right (And.right (And.right (And.right (And.right (And.right (And.right (And.right (And.right (by assumption))))))))))) | exact rne (And.right (And.right (And.right (And.right (And.right (And.right (And.right (And.right (And.right (And.right (by assumption))))))))))) | exact ren (And.right (And.right (And.right (And.right (And.right (And.right (And.right (And.right (And.right (And.right (by assumption))))))))))) | exact qlt (And.right (And.right (And.right (And.right (And.right (And.right (And.right (And.right (And.right (And.right (And.right (by assumption)))))))))))) | exact qgt (And.right (And.right (And.right (And.right (And.right (And.right (And.right (And.right (And.right (And.right (And.right (by assumption)))))))))))) | exact qne (And.right (And.right (And.right (And.right (And.right (And.right (And.right (And.right (And.right (And.right (And.right (by assumption)))))))))))) | exact qen (And.right (And.right (And.right (And.right (And.right (And.right (And.right (And.right (And.right (And.right (And.right (by assumption)))))))))))) | exact rlt (And.right (And.right (And.right (And.right (And.right (And.right (And.right (And.right (And.right (And.right (And.right (by assumption)))))))))))) | exact rgt (And.right (And.right (And.right (And.right (And.right (And.right (And.right (And.right (And.right (And.right (And.right (by assumption)))))))))))) | exact rne (And.right (And.right (And.right (And.right (And.right (And.right (And.right (And.right (And.right (And.right (And.right (by assumption)))))))))))) | exact ren (And.right (And.right (And.right (And.right (And.right (And.right (And.right (And.right (And.right (And.right (And.right (by assumption)))))))))))) | exact qlt (And.right (And.right (And.right (And.right (And.right (And.right (And.right (And.right (And.right (And.right (And.right (And.right (by assumption))))))))))))) | exact qgt (And.right (And.right (And.right (And.right (And.right (And.right (And.right (And.right (And.right (And.right (And.right (And.right (by assumption))))))))))))) | exact qne (And.right (And.right (And.right (And.right (And.right (And.right (And.right (And.right (And.right (And.right (And.right (And.right (by assumption))))))))))))) | exact qen (And.right (And.right (And.right (And.right (And.right (And.right (And.right (And.right (And.right (And.right (And.right (And.right (by assumption))))))))))))) | exact rlt (And.right (And.right (And.right (And.right (And.right (And.right (And.right (And.right (And.right (And.right (And.right (And.right (by assumption))))))))))))) | exact rgt (And.right (And.right (And.right (And.right (And.right (And.right (And.right (And.right (And.right (And.right (And.right (And.right (by assumption))))))))))))) | exact rne (And.right (And.right (And.right (And.right (And.right (And.right (And.right (And.right (And.right (And.right (And.right (And.right (by assumption))))))))))))) | exact ren (And.right (And.right (And.right (And.right (And.right (And.right (And.right (And.right (And.right (And.right (And.right (And.right (by assumption))))))))))))) | exact qlt (And.right (And.right (And.right (And.right (And.right (And.right (And.right (And.right (And.right (And.right (And.right (And.right (And.right (by assumption)))))))))))))) | exact qgt (And.right (And.right (And.right (And.right (And.right (And.right (And.right (And.right (And.right (And.right (And.right (And.right (And.right (by assumption)))))))))))))) | exact qne (And.right (And.right (And.right (And.right (And.right (And.right (And.right (And.right (And.right (And.right (And.right (And.right (And.right (by assumption)))))))))))))) | exact qen (And.right (And.right (And.right (And.right (And.right (And.right (And.right (And.right (And.right (And.right (And.right (And.right (And.right (by assumption)))))))))))))) | exact rlt (And.right (And.right (And.right (And.right (And.right (And.right (And.right (And.right (And.right (And.right (And.right (And.right (And.right (by assumption)))))))))))))) | exact rgt (And.right (And.right (And.right (And.right (And.right (And.right (And.right (And.right (And.right (And.right (And.right (And.right (And.right (by assumption)))))))))))))) | exact rne (And.right (And.right (And.right (And.right (And.right (And.right (And.right (And.right (And.right (And.right (And.right (And.right (And.right (by assumption)))))))))))))) | exact ren (And.right (And.right (And.right (And.right (And.right (And.right (And.right (And.right (And.right (And.right (And.right (And.right (And.right (by assumption)))))))))))))) | exact qlt (And.right (And.right (And.right (And.right (And.right (And.right (And.right (And.right (And.right (And.right (And.right (And.right (And.right (And.right (by assumption))))))))))))))) | exact qgt (And.right (And.right (And.right (And.right (And.right (And.right (And.right (And.right (And.right (And.right (And.right (And.right (And.right (And.right (by assumption))))))))))))))) | exact qne (And.right (And.right (And.right (And.right (And.right (And.right (And.right (And.right (And.right (And.right (And.right (And.right (And.right (And.right (by assumption))))))))))))))) | exact qen (And.right (And.right (And.right (And.right (And.right (And.right (And.right (And.right (And.right (And.right (And.right (And.right (And.right (And.right (by assumption))))))))))))))) | exact rlt (And.right (And.right (And.right (And.right (And.right (And.right (And.right (And.right (And.right (And.right (And.right (And.right (And.right (And.right (by assumption))))))))))))))) | exact rgt (And.right (And.right (And.right (And.right (And.right (And.right (And.right (And.right (And.right (And.right (And.right (And.right (And.right (And.right (by assumption))))))))))))))) | exact rne (And.right (And.right (And.right (And.right (And.right (And.right (And.right (And.right (And.right (And.right (And.right (And.right (And.right (And.right (by assumption))))))))))))))) | exact ren (And.right (And.right (And.right (And.right (And.right (And.right (And.right (And.right (And.right (And.right (And.right (And.right (And.right (And.right (by assumption))))))))))))))) | exact qlt (And.right (And.right (And.right (And.right (And.right (And.right (And.right (And.right (And.right (And.right (And.right (And.right (And.right (And.right (And.right (by assumption)))))))))))))))) | exact qgt (And.right (And.right (And.right (And.right (And.right (And.right (And.right (And.right (And.right (And.right (And.right (And.right (And.right (And.right (And.right (by assumption)))))))))))))))) | exact qne (And.right (And.right (And.right (And.right (And.right (And.right (And.right (And.right (And.right (And.right (And.right (And.right (And.right (And.right (And.right (by assumption)))))))))))))))) | exact qen (And.right (And.right (And.right (And.right (And.right (And.right (And.right (And.right (And.right (And.right (And.right (And.right (And.right (And.right (And.right (by assumption)))))))))))))))) | exact rlt (And.right (And.right (And.right (And.right (And.right (And.right (And.right (And.right (And.right (And.right (And.right (And.right (And.right (And.right (And.right (by assumption)))))))))))))))) | exact rgt (And.right (And.right (And.right (And.right (And.right (And.right (And.right (And.right (And.right (And.right (And.right (And.right (And.right (And.right (And.right (by assumption)))))))))))))))) | exact rne (And.right (And.right (And.right (And.right (And.right (And.right (And.right (And.right (And.right (And.right (And.right (And.right (And.right (And.right (And.right (by assumption)))))))))))))))) | exact ren (And.right (And.right (And.right (And.right (And.right (And.right (And.right (And.right (And.right (And.right (And.right (And.right (And.right (And.right (And.right (by assumption))))))))))))))))))
  trivial
theorem layH072 : True := by
  k_with "mine texts" => ((try dsimp only [← sx0, ← sx1, ← sx2, ← sx3, ← sx4, ← sx5, ← sx6, ← sx7, ← sx8, ← sx9, ← sx10, ← sx11, ← sx12, ← sx13, ← sx14, ← sx15, ← sx16, ← sx17, ← sx18, ← sx19, ← sx20, ← sx21, ← sx22, ← sx23, ← sx24, ← sx25, ← sx26, ← sx27, ← sx28, ← sx29, ← sx30, ← sx31, ← sx32, ← sx33, ← sx34, ← sx35, ← sx36, ← sx37, ← sx38, ← sx39, ← sx40, ← sx41, ← sx42, ← sx43, ← sx44, ← sx45, ← sx46, ← sx47, ← sx48, ← sx49, ← sx50, ← sx51, ← sx52, ← sx53, ← sx54, ← sx55, ← sx56, ← sx57, ← sx58, ← sx59, ← sx60, ← sx61, ← sx62, ← sx63, ← sx64, ← sx65, ← sx66, ← sx67, ← sx68, ← sx69, ← sx70, ← sx71, ← sx72, ← sx73, ← sx74, ← sx75, ← sx76, ← sx77, ← sx78, ← sx79, ← sx80, ← sx81, ← sx82, ← sx83, ← sx84, ← sx85, ← sx86, ← sx87, ← sx88, ← sx89, ← sx90, ← sx91, ← sx92, ← sx93, ← sx94, ← sx95, ← sx96, ← sx97, ← sx98, ← sx99, ← sx100, ← sx101, ← sx102, ← sx103, ← sx104, ← sx105, ← sx106, ← sx107, ← sx108, ← sx109]))
  k_with "mine drop" => (first | (refine' Drop.head ?a; (case a => k_all)) | (refine' Drop.tail ?a ?b; (case a => k_ne); (case b => walk_at "mine drop")))
  k_with "setAttr ref" => ((k_here; k_dflt (first | (refine' exc_set0 ?k1 ?k2 ?k3 ?k4 ?k5 ?k6 ?k7 ?k8 ?k9 ?_; (case k1 => k_asm); (case k2 => k_asm); (case k3 => k_asm); (case k4 => k_mem); (case k5 => k_is); (case k6 => kernel_rfl); (case k7 => k_is); (case k8 => k_is); (case k9 => intro zqd; k_upd); k_whole; intro zqdp zqhp zqFp zqNp zql1; (try k_lt zql1)) | (refine' exc_set_args ?k1 ?k2 ?k3 ?k4 ?k5 ?k6 ?k7 ?k8 ?k9 ?k10 ?_; (case k1 => k_asm); (case k2 => k_asm); (case k3 => k_asm); (case k4 => first | (refine' InstAt.of_exc ?N ?h1 ?h2; (case N => k_asm); (case h1 => k_mem); (case h2 => k_mem)) | (refine' InstAt.of_exc0 ?N ?h1; (case N => k_asm); (case h1 => k_mem))); (case k5 => exact isTup_of (by k_asm) (by k_mem)); (case k6 => k_is); (case k7 => kernel_rfl); (case k8 => k_is); (case k9 => k_is); (case k10 => k_upd); k_whole; intro zqhp zqFp zqNp) | (refine' exc_set ?k1 ?k2 ?k3 ?k4 ?k5 ?k6 ?k7 ?k8 ?k9 ?k10 ?k11 ?k12 ?_; (case k1 => k_asm); (case k2 => k_asm); (case k3 => k_asm); (case k4 => first | (refine' InstAt.of_exc ?N ?h1 ?h2; (case N => k_asm); (case h1 => k_mem); (case h2 => k_mem)) | (refine' InstAt.of_exc0 ?N ?h1; (case N => k_asm); (case h1 => k_mem))); (case k5 => k_is); (case k6 => kernel_rfl); (case k7 => k_is); (case k8 => k_is); (case k9 => k_get); (case k10 => k_put); (case k11 => k_upd); (case k12 => exact Nat.le_of_ble_eq_true rfl); k_whole; intro zqhp zqFp zqNp))))
  k_with "call builtin:Exception.__init__" => ((k_here; k_dflt (refine' exc_init_call ?k1 ?k2 ?k3 ?k4 ?k5 ?k6 ?_; (case k1 => k_asm); (case k2 => k_asm); (case k3 => k_asm); (case k4 => first | (refine' InstAt.of_exc ?N ?h1 ?h2; (case N => k_asm); (case h1 => k_mem); (case h2 => k_mem)) | (refine' InstAt.of_exc0 ?N ?h1; (case N => k_asm); (case h1 => k_mem))); (case k5 => k_is); (case k6 => intro zqt; k_upd); k_whole; intro zqtp zqhp zqFp zqNp zql1; (try k_lt zql1))))
  k_with "call builtin:repr" => ((k_here; k_dflt (refine' repr_use ?k1 ?k2 ?k3 ?k4 ?k5 ?k6 ?k7 ?_; (case k1 => assumption); (case k2 => k_asm); (case k3 => k_asm); (case k4 => exact rfl); (case k5 => exact rfl); (case k6 => exact Nat.le_of_ble_eq_true rfl); (case k7 => exact Nat.le_of_ble_eq_true rfl); k_whole; intro zqhp zqup zqtkp zqFp zqNp)))
  k_with "BackIn" => ((k_dflt (refine' back_ ?k1 ?k2 ?k3 ?_; (case k1 => k_asm); (case k2 => k_asm); (case k3 => walk_at "mine drop"); k_whole; intro zqFp zqNp; (try dsimp only))))
  k_with "call ref" => ((k_here; k_dflt (refine wpAny_call ?_; refine' enter_in ?k1 ?k2 ?k3 ?k4 ?k5 ?k6 ?k7 ?k8 ?kB ?c2 ?c3 ?c4 ?c5 ?_; (case k1 => k_asm); (case k2 => k_asm); (case k3 => k_asm); (case k4 => exact Top.nolimit (by assumption)); (case k5 => k_is); (case k6 => k_is); (case k7 => exact Nat.le_of_ble_eq_true rfl); (case k8 => first | ((with_reducible show BindsTo _ _ ⟨[_], []⟩ _); first | exact BindsTo.of_eq (binds := [(_, _)]) rfl | exact binds_K (binds := [(_, _)]) (by k_in) rfl (by k_is) rfl rfl rfl) | ((with_reducible show BindsTo _ _ ⟨[_, _], []⟩ _); first | exact BindsTo.of_eq (binds := [(_, _), (_, _)]) rfl | exact binds_K (binds := [(_, _), (_, _)]) (by k_in) rfl (by k_is) rfl rfl rfl) | ((with_reducible show BindsTo _ _ ⟨[_, _, _], []⟩ _); first | exact BindsTo.of_eq (binds := [(_, _), (_, _), (_, _)]) rfl | exact binds_K (binds := [(_, _), (_, _), (_, _)]) (by k_in) rfl (by k_is) rfl rfl rfl) | ((with_reducible show BindsTo _ _ ⟨[_, _, _, _], []⟩ _); first | exact BindsTo.of_eq (binds := [(_, _), (_, _), (_, _), (_, _)]) rfl | exact binds_K (binds := [(_, _), (_, _), (_, _), (_, _)]) (by k_in) rfl (by k_is) rfl rfl rfl) | ((with_reducible show BindsTo _ _ ⟨[_, _, _, _, _], []⟩ _); first | exact BindsTo.of_eq (binds := [(_, _), (_, _), (_, _), (_, _), (_, _)]) rfl | exact binds_K (binds := [(_, _), (_, _), (_, _), (_, _), (_, _)]) (by k_in) rfl (by k_is) rfl rfl rfl)); (case c5 => decide); (case kB => exact locs rfl); (case c2 => exact rfl); (case c3 => exact rfl); (case c4 => exact rfl); k_whole; intro zqoLp zqLp zqhp zqtkp zqFp zqNp zql1 zqn1; (try k_lt zql1); (try (replace zqn1 := allNe_of zqn1; simp only [AllNe, and_true] at zqn1)); (try dsimp only); walk_at "mine texts")))
  k_with "call builtin:str.join" => ((k_here; (with_reducible show wpAny _ _ (call (Value.builtin "str.join") [Value.str _ _, Value.ref _]) _ _ _); k_dflt (refine join_listC (by is_list) (by repeat constructor) (by decide) (by (simp only [List.map_cons, List.map_nil, List.sum_cons, List.sum_nil, List.length_cons, List.length_nil]; omega)) ?_); intro zqtp zqkp))
  k_with "getMethod type:Exception" => ((k_here; refine' method_type ?F ?X ?m (by decide +kernel) ?e ?h ?_; (case F => k_asm); (case X => k_asm); (case m => exact meta_Exception); (case e => k_dflt k_is); (case h => k_handed)))
  k_with "compareOp IsNot" => ((k_here; k_dflt (refine isNot_none (by assumption) ?_)))
  k_with "call builtin:str.format" => ((k_here; k_dflt (refine' line_use ?k1 ?k2 ?k3 ?k4 ?k5 ?k6 ?k7 ?_; (case k1 => assumption); (case k2 => k_asm); (case k3 => k_asm); (case k4 => exact rfl); (case k5 => exact rfl); (case k6 => exact Nat.le_of_ble_eq_true rfl); (case k7 => exact Nat.le_of_ble_eq_true rfl); k_whole; intro zqhp zqup zqtkp zqFp zqNp)))
  k_with "call builtin:str.format" => ((k_here; (with_reducible show wpAny _ _ (call (Value.builtin "str.format") [Value.str _ _, _, _, _, _]) _ _ _); k_dflt (refine' fmt_use ?k1 ?k2 ?k3 ?k4 ?k5 ?_; (case k1 => k_asm); (case k2 => k_asm); (case k3 => exact ⟨rfl, rfl, Nat.le_of_ble_eq_true rfl, Nat.le_of_ble_eq_true rfl⟩); (case k4 => exact args_5 _ _ _ _ _); (case k5 => walk_at "mine fmt")); k_whole; intro zqhp zqup zqtkp zqFp zqNp))
  k_with "pyReprObj" => ((k_here; k_dflt (refine' reprObj_use ?k1 ?k2 ?k3 ?k4 ?k5 ?k6 ?k7 ?_; (case k1 => assumption); (case k2 => k_asm); (case k3 => k_asm); (case k4 => exact rfl); (case k5 => exact rfl); (case k6 => exact Nat.le_of_ble_eq_true rfl); (case k7 => exact Nat.le_of_ble_eq_true rfl); k_whole; intro zqhp zqup zqtkp zqFp zqNp)))
  trivial
set_option pp.deepTerms false
set_option pp.deepTerms.threshold 14
set_option pp.proofs false
theorem layH073 : True := by
  k_with "getAttr ref" => ((k_here; (with_reducible refine haltw_ ?_)))
  trivial
theorem held7 : ∀ {p : Program} {loose : List Str} {mean : ExcName → Option Value} {mg mb : Str → Option Value} (w : World) (s : Shared) (k : Int) (kt : Tok) (h0 : 0 ≤ k) (h6 : k < 6) (e : Addr) (a b c : Value) (msg : Str) (er : Er7 s.heap k.toNat a b c msg e) (ha : handedIn a = true) (hb : handedIn b = true) (hc : handedIn c = true)
    (Q E : Value → Shared → Prop) (KX : (hz.heap_193 w.params).In s.heap) (T : Top p loose mean mg mb s.heap)
    (hQ : ∀ h' tk (l : Addr) (n : Nat) (qs : List Addr), Grow s.heap h' → Held7 s.heap h' l n qs a b c → Q (.ref l) { s with heap := h', toks := tk }),
    wpAny (model PySem.Challenge.rw_dm0028_07.prog w) (AD 550 1800) (call (.ref 191) [.int k kt, .ref e, a, b, c]) Q E s := by
  w_top off
  k_fill
  intro p loose mean mg mb w s k kt h0 h6 e a b c msg er ha hb hc Q E KX T hQ
  obtain ⟨hh, g, dr, tk, os⟩ := s
  dsimp only at KX T er hQ
  w_strict (
  refine wpAny_call ?_
  k_dflt (refine' enter_new (h₀ := hh) (binds := [("kind", .int k kt), ("err", .ref e), ("a", a), ("b", b), ("c", c)]) (news := []) ?k1 ?k2 KX T.nolimit ?k9 ?k5 ?k6 ?k7 ?k8 ?kB ?c2 ?c3 ?c4 ?c5 ?_; (case k5 => k_is); (case k6 => k_is); (case k7 => exact Nat.le_of_ble_eq_true rfl); (case k8 => first | exact BindsTo.of_eq rfl | exact binds_K KX rfl (by k_is) rfl rfl rfl); (case c5 => decide); (case kB => exact locs rfl); (case c2 => exact rfl); (case c3 => exact rfl); (case c4 => exact rfl); (case k1 => exact fun _ _ e => e); (case k2 => exact Nat.le_refl _); (case k9 => exact List.forall_mem_nil _))
  intro L' h' tk' F' N' l1
  walk_at "mine texts"
  k_steps
  · obtain rfl : k = 0 := by omega
    unfold Halt
    refine get7 er (Fr.keep (by k_asm)) (Frag.In.keeps KX (Fr.keep (by k_asm))) (by kernel_rfl) (by kernel_rfl) (.head _) ha ?_
    dsimp only
    k_steps
    (with_reducible rename Fr _ _ _ _ => F3)
    (with_reducible rename News _ _ _ _ => N3)
    refine hQ _ _ _ _ [_] F3.keep (held_end N3 (by k_mem) ?_ (Nat.le_of_ble_eq_true rfl))
    intro q hq
    simp only [List.mem_cons, List.not_mem_nil, or_false] at hq
    subst hq
    exact ⟨_, (.inl rfl), by k_mem⟩
  · obtain rfl : k = 1 := by omega
    unfold Halt
    refine get7 er (Fr.keep (by k_asm)) (Frag.In.keeps KX (Fr.keep (by k_asm))) (by kernel_rfl) (by kernel_rfl) (.head _) ha ?_
    dsimp only
    k_steps
    unfold Halt
    refine get7 er (Fr.keep (by k_asm)) (Frag.In.keeps KX (Fr.keep (by k_asm))) (by kernel_rfl) (by kernel_rfl) (.tail _ (.head _)) hb ?_
    dsimp only
    k_steps
    (with_reducible rename Fr _ _ _ _ => F3)
    (with_reducible rename News _ _ _ _ => N3)
    refine hQ _ _ _ _ [_, _] F3.keep (held_end N3 (by k_mem) ?_ (Nat.le_of_ble_eq_true rfl))
    intro q hq
    simp only [List.mem_cons, List.not_mem_nil, or_false] at hq
    rcases hq with rfl | rfl
    · exact ⟨_, (.inl rfl), by k_mem⟩
    · exact ⟨_, (.inr (.inl rfl)), by k_mem⟩
  · obtain rfl : k = 2 := by omega
    unfold Halt
    refine get7 er (Fr.keep (by k_asm)) (Frag.In.keeps KX (Fr.keep (by k_asm))) (by kernel_rfl) (by kernel_rfl) (.head _) ha ?_
    dsimp only
    k_steps
    unfold Halt
    refine get7 er (Fr.keep (by k_asm)) (Frag.In.keeps KX (Fr.keep (by k_asm))) (by kernel_rfl) (by kernel_rfl) (.tail _ (.head _)) hb ?_
    dsimp only
    k_steps
    (with_reducible rename Fr _ _ _ _ => F3)
    (with_reducible rename News _ _ _ _ => N3)
    refine hQ _ _ _ _ [_, _] F3.keep (held_end N3 (by k_mem) ?_ (Nat.le_of_ble_eq_true rfl))
    intro q hq
    simp only [List.mem_cons, List.not_mem_nil, or_false] at hq
    rcases hq with rfl | rfl
    · exact ⟨_, (.inl rfl), by k_mem⟩
    · exact ⟨_, (.inr (.inl rfl)), by k_mem⟩
  · obtain rfl : k = 3 := by omega
    unfold Halt
    refine get7 er (Fr.keep (by k_asm)) (Frag.In.keeps KX (Fr.keep (by k_asm))) (by kernel_rfl) (by kernel_rfl) (.head _) ha ?_
    dsimp only
    k_steps
    unfold Halt
    refine get7 er (Fr.keep (by k_asm)) (Frag.In.keeps KX (Fr.keep (by k_asm))) (by kernel_rfl) (by kernel_rfl) (.tail _ (.head _)) hb ?_
    dsimp only
    k_steps
    unfold Halt
    refine get7 er (Fr.keep (by k_asm)) (Frag.In.keeps KX (Fr.keep (by k_asm))) (by kernel_rfl) (by kernel_rfl) (.tail _ (.tail _ (.head _))) hc ?_
    dsimp only
    k_steps
    (with_reducible rename Fr _ _ _ _ => F3)
    (with_reducible rename News _ _ _ _ => N3)
    refine hQ _ _ _ _ [_, _, _] F3.keep (held_end N3 (by k_mem) ?_ (Nat.le_of_ble_eq_true rfl))
    intro q hq
    simp only [List.mem_cons, List.not_mem_nil, or_false] at hq
    rcases hq with rfl | rfl | rfl
    · exact ⟨_, (.inl rfl), by k_mem⟩
    · exact ⟨_, (.inr (.inl rfl)), by k_mem⟩
    · exact ⟨_, (.inr (.inr rfl)), by k_mem⟩
  · obtain rfl : k = 4 := by omega
    unfold Halt
    refine get7 er (Fr.keep (by k_asm)) (Frag.In.keeps KX (Fr.keep (by k_asm))) (by kernel_rfl) (by kernel_rfl) (.head _) ha ?_
    dsimp only
    k_steps
    unfold Halt
    refine get7 er (Fr.keep (by k_asm)) (Frag.In.keeps KX (Fr.keep (by k_asm))) (by kernel_rfl) (by kernel_rfl) (.tail _ (.head _)) hb ?_
    dsimp only
    k_steps
    unfold Halt
    refine get7 er (Fr.keep (by k_asm)) (Frag.In.keeps KX (Fr.keep (by k_asm))) (by kernel_rfl) (by kernel_rfl) (.tail _ (.tail _ (.head _))) ha ?_
    dsimp only
    k_steps
    (with_reducible rename Fr _ _ _ _ => F3)
    (with_reducible rename News _ _ _ _ => N3)
    refine hQ _ _ _ _ [_, _, _] F3.keep (held_end N3 (by k_mem) ?_ (Nat.le_of_ble_eq_true rfl))
    intro q hq
    simp only [List.mem_cons, List.not_mem_nil, or_false] at hq
    rcases hq with rfl | rfl | rfl
    · exact ⟨_, (.inl rfl), by k_mem⟩
    · exact ⟨_, (.inr (.inl rfl)), by k_mem⟩
    · exact ⟨_, (.inl rfl), by k_mem⟩
  · obtain rfl : k = 5 := by omega
    unfold Halt
    refine get7 er (Fr.keep (by k_asm)) (Frag.In.keeps KX (Fr.keep (by k_asm))) (by kernel_rfl) (by kernel_rfl) (.head _) ha ?_
    dsimp only
    k_steps
    unfold Halt
    refine get7 er (Fr.keep (by k_asm)) (Frag.In.keeps KX (Fr.keep (by k_asm))) (by kernel_rfl) (by kernel_rfl) (.tail _ (.head _)) hb ?_
    dsimp only
    k_steps
    (with_reducible rename Fr _ _ _ _ => F3)
    (with_reducible rename News _ _ _ _ => N3)
    refine hQ _ _ _ _ [_, _] F3.keep (held_end N3 (by k_mem) ?_ (Nat.le_of_ble_eq_true rfl))
    intro q hq
    simp only [List.mem_cons, List.not_mem_nil, or_false] at hq
    rcases hq with rfl | rfl
    · exact ⟨_, (.inl rfl), by k_mem⟩
    · exact ⟨_, (.inr (.inl rfl)), by k_mem⟩
)
end
section
open PySem PySem.W PySem.Calls PyProof.Rows PySem.SeqAt
set_option Elab.async false
set_option maxRecDepth 100000
set_option maxHeartbeats 4000000
set_option linter.unusedVariables false
theorem cls_ok7 (w : World) : ∀ k : Nat, clsB (KP7 w) (cls7 k) 36 = true ∧ nameB (KP7 w) (cls7 k) (Str.ofString "message") = true
  | 0 => ⟨by kernel_rfl, by kernel_rfl⟩
  | 1 => ⟨by kernel_rfl, by kernel_rfl⟩
  | 2 => ⟨by kernel_rfl, by kernel_rfl⟩
  | 3 => ⟨by kernel_rfl, by kernel_rfl⟩
  | 4 => ⟨by kernel_rfl, by kernel_rfl⟩
  | _ + 5 => ⟨by kernel_rfl, by kernel_rfl⟩
section
variable {p : Program} {loose : List PySem.Str} {mean : ExcName → Option PySem.Value} {mg mb : PySem.Str → Option PySem.Value}
variable {w : World} {A : Around} {E : PySem.Value → Shared → Prop} {s : Shared} {h₀ h : Heap} {L : Addr} {m : PySem.Str → Option PySem.Value} {news : List (Addr × Obj)} {Q : PySem.Value → Shared → Prop} {k : Int} {a b c : PySem.Value} {msg : PySem.Str} {e : Addr} {value slice : PySem.Expr}
theorem item_tmpT {prog : Program} {l : Addr} {items : List PySem.Value} {u : Tok} {P : Addr → Prop} (hl : s.heap.IsList l items.toArray) (h0 : 0 ≤ k) (hz : items.length ≤ 1000) (hx : ∃ td, items[k.toNat]? = some (.ref td) ∧ P td)
    (h : ∀ td, P td → Q (.ref td) s) (hs : subscripted slice false (.ref l) (.int k u) = operate [.ref l, .int k u] (getItem (.ref l) (.int k u)) := by with_unfolding_all rfl) :
    wpAny (model prog w) A (subscriptTail value slice (.ref l) (.int k u)) Q E s := by
  obtain ⟨td, hx, hp⟩ := hx
  have hT := hl.typeIs
  have hkn : k.toNat < items.length := (List.getElem?_eq_some_iff.mp hx).1
  unfold subscriptTail
  refine wpAny_bind ?_
  rw [getitemInPython_of_ne hT.not_modules]
  refine wpAny_bind (wpAny_specialOf hT slot_list_getitem.lookup ?_)
  have fin : wpAny (model prog w) A (subscripted slice false (.ref l) (.int k u)) (fun r s₃ => wpAny (model prog w) A (letTemporaryGo value (.ref l) r >>= fun _ => pure r) Q E s₃) E s := by
    rw [hs]
    refine wpAny_operating (wpAny_getItem_list hl h0 (by omega) (x := .ref td) (by simpa using hx) ?_)
    exact wpAny_bind (wpAny_letTemporaryGo (wpAny_pure (h _ hp)))
  first
    | exact wpAny_pure (wpAny_bind fin)
    | exact wpAny_bind (wpAny_pure (wpAny_bind fin))
    | exact wpAny_bind fin
/-- one of the six tuples, by kind -/
def Due6 (k : Nat) (a b c : PySem.Value) (t0 t1 t2 t3 t4 t5 td : Addr) : Prop := ∀ news : List (Addr × Obj), (t0, tupObj [a]) ∈ news → (t1, tupObj [a, b]) ∈ news → (t2, tupObj [a, b, .none]) ∈ news → (t3, tupObj [a, b, c, .none]) ∈ news → (t4, tupObj [a, b, c, a]) ∈ news → (t5, tupObj [a, b, c]) ∈ news → (td, tupObj (due7 k a b c)) ∈ news
theorem pickT (h0 : 0 ≤ k) (h6 : k < 6) (t0 t1 t2 t3 t4 t5 : Addr) : ∃ td, ([.ref t0, .ref t1, .ref t2, .ref t3, .ref t4, .ref t5] : List PySem.Value)[k.toNat]? = some (.ref td) ∧ Due6 k.toNat a b c t0 t1 t2 t3 t4 t5 td := by
  rcases six7 h0 h6 with rfl | rfl | rfl | rfl | rfl | rfl
  · exact ⟨t0, rfl, fun _ m0 m1 m2 m3 m4 m5 => m0⟩
  · exact ⟨t1, rfl, fun _ m0 m1 m2 m3 m4 m5 => m1⟩
  · exact ⟨t2, rfl, fun _ m0 m1 m2 m3 m4 m5 => m2⟩
  · exact ⟨t3, rfl, fun _ m0 m1 m2 m3 m4 m5 => m3⟩
  · exact ⟨t4, rfl, fun _ m0 m1 m2 m3 m4 m5 => m4⟩
  · exact ⟨t5, rfl, fun _ m0 m1 m2 m3 m4 m5 => m5⟩
theorem item_due {prog : Program} {l : Addr} {n : Nat} {u : Tok} {t0 t1 t2 t3 t4 t5 : Addr} (N : News h₀ L s.heap news) (hl : (l, listOf #[.ref t0, .ref t1, .ref t2, .ref t3, .ref t4, .ref t5] n) ∈ news) (h0 : 0 ≤ k) (h6 : k < 6)
    (h : ∀ td, Due6 k.toNat a b c t0 t1 t2 t3 t4 t5 td → Q (.ref td) s) (hs : subscripted slice false (.ref l) (.int k u) = operate [.ref l, .int k u] (getItem (.ref l) (.int k u)) := by with_unfolding_all rfl) :
    wpAny (model prog w) A (subscriptTail value slice (.ref l) (.int k u)) Q E s :=
  item_tmpT (P := fun td => Due6 k.toNat a b c t0 t1 t2 t3 t4 t5 td) (News.isList N hl) h0 (Nat.le_of_ble_eq_true rfl) (pickT h0 h6 t0 t1 t2 t3 t4 t5) h hs
theorem Due6.at {k : Nat} {t0 t1 t2 t3 t4 t5 td : Addr} (D : Due6 k a b c t0 t1 t2 t3 t4 t5 td) (N : News h₀ L h news) (m0 : (t0, tupObj [a]) ∈ news) (m1 : (t1, tupObj [a, b]) ∈ news) (m2 : (t2, tupObj [a, b, .none]) ∈ news) (m3 : (t3, tupObj [a, b, c, .none]) ∈ news) (m4 : (t4, tupObj [a, b, c, a]) ∈ news) (m5 : (t5, tupObj [a, b, c]) ∈ news) : (td, tupObj (due7 k a b c)) ∈ news := D news m0 m1 m2 m3 m4 m5
theorem due_len (k : Nat) (a b c : PySem.Value) : (due7 k a b c).length ≤ 4 := by
  unfold due7; split <;> simp
theorem args7 {expr : Bool} {d t : Addr} {od : Obj} {k : Nat} (X : (KP7 w).In s.heap) (h1 : s.heap.get? e = some (excObj (cls7 k) (some d) t)) (h2 : s.heap.get? d = some od) (q : Q (.ref t) { s with toks := s.toks + 1 }) : wpAny (model P07 w) A (getAttr (.ref e) (Str.ofString "args") expr) Q E s :=
  gets_args X h1 h2 (cls_ok7 w k).1 A s Q E expr (Grow.refl _) q
theorem len_tup7 {prog : Program} {t : Addr} {xs : List PySem.Value} (ho : s.heap.get? t = some (tupObj xs)) (hl : xs.length ≤ 1000) (q : Q (.int (xs.length : Int) (s.toks + 1)) { s with toks := s.toks + 1 + 1 }) : wpAny (model prog w) A (call (.builtin "len") [.ref t]) Q E s :=
  len_tuple ⟨_, ho, rfl, _, rfl⟩ (by rw [List.size_toArray]; omega) (by rw [List.size_toArray]; exact q)
theorem ne_int7 {prog : Program} {i : Int} {t u : Tok} (q : Q (.bool false) s) : wpAny (model prog w) A (compareOp .NotEq (.int i t) (.int i u)) Q E s := by
  have := RcNeAt.int_int (A := A) (s := s) i t i u
  rw [show (!(i == i)) = false by simp] at this
  exact this prog w E Q q
theorem held_use {kt : Tok} (h0 : 0 ≤ k) (h6 : k < 6) (F : Fr h₀ L s.heap m) (X₀ : (KP7 w).In h₀) (T : Top p loose mean mg mb h₀) (N : News h₀ L s.heap news) (er : Er7 h₀ k.toNat a b c msg e) (ha : handedIn a = true) (hb : handedIn b = true) (hc : handedIn c = true) (a1 : A.handled = none) (a2 : A.guards = some []) (a3 : A.depth ≤ 550) (a4 : A.units ≤ 1800)
    (q : ∀ (h' : Heap) (tk : Nat) (l : Addr) (n : Nat) (qs : List Addr) (led : List (Addr × Obj)), Fr h₀ L h' m → News h₀ L h' ((l, listOf (qs.map PySem.Value.ref).toArray n) :: (news ++ led)) → (∀ y ∈ qs, ∃ x, (x = a ∨ x = b ∨ x = c) ∧ (y, tupObj [x, x]) ∈ led) → qs.length ≤ 3 → Q (.ref l) { s with heap := h', toks := tk }) :
    wpAny (model P07 w) A (call (.ref 191) [.int k kt, .ref e, a, b, c]) Q E s := by
  refine weaken a1 a2 a3 a4 (held7 w s k kt h0 h6 e a b c msg (er.mono F.keep) ha hb hc Q E (X₀.keeps F.keep) (T.keeps F.keep) fun h' tk l n qs g z => ?_)
  have hL : ∀ a, s.heap.get? a = none → a ≠ L ∧ h₀.get? a = none := fun a ha => by
    refine ⟨fun z => ?_, ?_⟩
    · obtain ⟨o, _, _, ho, _⟩ := F.ns
      rw [z, ho] at ha; cases ha
    · cases q : h₀.get? a with
      | none => rfl
      | some o => have := F.keep _ _ q; rw [ha] at this; cases this
  obtain ⟨hl, nl, hq, few⟩ := z
  have key : ∀ l : List Addr, (∀ q ∈ l, s.heap.get? q = none ∧ ∃ x, (x = a ∨ x = b ∨ x = c) ∧ h'.get? q = some (tupObj [x, x])) → ∃ led : List (Addr × Obj), (∀ p ∈ led, h'.get? p.1 = some p.2 ∧ p.1 ≠ L ∧ h₀.get? p.1 = none) ∧ ∀ q ∈ l, ∃ x, (x = a ∨ x = b ∨ x = c) ∧ (q, tupObj [x, x]) ∈ led := by
    intro l
    induction l with
    | nil => exact fun _ => ⟨[], (fun p hp => nomatch hp), fun q hq => nomatch hq⟩
    | cons y ys ih =>
      intro hy
      obtain ⟨led, i1, i2⟩ := ih fun q hq => hy q (.tail _ hq)
      obtain ⟨j1, x, j2, j3⟩ := hy y (.head _)
      refine ⟨(y, tupObj [x, x]) :: led, fun p hp => ?_, fun q hq => ?_⟩
      · rcases List.mem_cons.mp hp with rfl | hp
        · exact ⟨j3, hL _ j1⟩
        · exact i1 p hp
      · rcases List.mem_cons.mp hq with rfl | hq
        · exact ⟨x, j2, .head _⟩
        · obtain ⟨x', k1, k2⟩ := i2 q hq
          exact ⟨x', k1, .tail _ k2⟩
  obtain ⟨led, l1, l2⟩ := key qs hq
  refine q h' tk l n qs led (fr_grow F g) (fun p hp => ?_) l2 few
  rcases List.mem_cons.mp hp with rfl | hp
  · exact ⟨hl, hL _ nl⟩
  · rcases List.mem_append.mp hp with hp | hp
    · exact news_grow N g p hp
    · exact l1 p hp
end
end
section
open PySem PySem.W PySem.Spec PySem.Calls PyProof.Rows PySem.SeqAt
set_option Elab.async false
set_option maxRecDepth 100000
set_option maxHeartbeats 4000000
set_option linter.unusedVariables false
section
variable {prog : Program} {w : World} {A : Around} {s : Shared} {h₀ : Heap} {L : Addr} {m : PySem.Str → Option PySem.Value} {env : Env}
/-- a comprehension over a range, that takes some of its turns and makes a pair (x, x) of each -/
theorem comp_due {ct elt : PySem.Expr} {x : PySem.Str} {scope : Scope} {cl : List (PySem.Str × Addr)} {Fin : List PySem.Value → List (Addr × Obj) → Prop} {n : Nat} {base : List (Addr × Obj)} (pick : Nat → Option PySem.Value)
    (turnT : ∀ i t ys led I oI C oC D m₂ h tk (E' : PySem.Value → Shared → Prop), i < n → LCg.NsObj oC m₂ → m₂ x = some (.int (0 + (i : Int)) t) → Fr h₀ L h m → News h₀ L h ((I, oI) :: (C, oC) :: (D, LCg.lst ys) :: (base ++ led)) →
      ∀ Q' : Bool → Shared → Prop, (∀ h' tk', Fr h₀ L h' m → News h₀ L h' ((I, oI) :: (C, oC) :: (D, LCg.lst ys) :: (base ++ led)) → Q' (pick i).isSome { s with heap := h', toks := tk' }) → wpAny (model prog w) A (isTrue ct (compEnvC scope cl C env) (eval ct (compEnvC scope cl C env))) Q' E' { s with heap := h, toks := tk })
    (turnE : ∀ i t v ys led I oI C oC D m₂ h tk (E' : PySem.Value → Shared → Prop), i < n → pick i = some v → LCg.NsObj oC m₂ → m₂ x = some (.int (0 + (i : Int)) t) → Fr h₀ L h m → News h₀ L h ((I, oI) :: (C, oC) :: (D, LCg.lst ys) :: (base ++ led)) →
      ∀ Q' : PySem.Value → Shared → Prop, (∀ q h' tk', Fr h₀ L h' m → News h₀ L h' ((I, oI) :: (C, oC) :: (D, LCg.lst ys) :: (base ++ (led ++ [(q, tupObj [v, v])]))) → q ≠ I → q ≠ C → q ≠ D → Q' (.ref q) { s with heap := h', toks := tk' }) → wpAny (model prog w) A (eval elt (compEnvC scope cl C env)) Q' E' { s with heap := h, toks := tk })
    (fin : ∀ ys led, (∀ y ∈ ys, ∃ q v, y = .ref q ∧ (q, tupObj [v, v]) ∈ led ∧ ∃ i, i < n ∧ pick i = some v) → ys.length ≤ n → Fin ys (base ++ led)) :
    LCt.CompRestT prog w A h₀ L m env ct elt x scope cl s (fun _ => True) (fun i v => ∃ t, v = .int (0 + (i : Int)) t) Fin n 0 [] base := by
  have key : ∀ (j i : Nat) (ys : List PySem.Value) (led : List (Addr × Obj)), i + j = n → (∀ y ∈ ys, ∃ q v, y = .ref q ∧ (q, tupObj [v, v]) ∈ led ∧ ∃ i, i < n ∧ pick i = some v) → ys.length ≤ i →
      LCt.CompRestT prog w A h₀ L m env ct elt x scope cl s (fun _ => True) (fun i v => ∃ t, v = .int (0 + (i : Int)) t) Fin j i ys (base ++ led) := by
    intro j
    induction j with
    | zero =>
      intro i ys led e hy hl
      exact LCt.CompRestT.zero (fin ys led hy (by omega))
    | succ j ih =>
      intro i ys led e hy hl
      refine LCt.CompRestT.succ ?_
      rintro v I oI C oC D m₂ h tk E' ⟨t, rfl⟩ hC hx F N off ne
      refine turnT i t ys led I oI C oC D m₂ h tk E' (by omega) hC hx F N _ fun h' tk' F' N' => ?_
      cases hp : pick i with
      | none =>
        rw [Option.isSome_none, if_neg Bool.false_ne_true]
        exact ⟨h', tk', base ++ led, rfl, F', N', off, trivial, ih (i + 1) ys led (by omega) hy (by omega)⟩
      | some v =>
        rw [Option.isSome_some, if_pos rfl]
        refine turnE i t v ys led I oI C oC D m₂ h' tk' E' (by omega) hp hC hx F' N' _ fun q h'' tk'' F'' N'' q1 q2 q3 => ?_
        refine ⟨h'', tk'', base ++ (led ++ [(q, tupObj [v, v])]), rfl, F'', N'', LCg.Off3.of fun p hp' => ?_, trivial, ih (i + 1) (ys ++ [.ref q]) _ (by omega) (fun y hy' => ?_) (by rw [List.length_append, List.length_singleton]; omega)⟩
        · rcases List.mem_append.mp hp' with hp' | hp'
          · exact off.mem p (List.mem_append_left _ hp')
          · rcases List.mem_append.mp hp' with hp' | hp'
            · exact off.mem p (List.mem_append_right _ hp')
            · rw [List.mem_singleton.mp hp']; exact ⟨q1, q2, q3⟩
        · rcases List.mem_append.mp hy' with hy' | hy'
          · obtain ⟨q', v', a1, a2, a3⟩ := hy y hy'
            exact ⟨q', v', a1, List.mem_append_left _ a2, a3⟩
          · exact ⟨q, v, List.mem_singleton.mp hy', List.mem_append_right _ (.head _), i, by omega, hp⟩
  have := key n 0 [] [] (by omega) (fun y hy => nomatch hy) (Nat.le_refl _)
  rwa [List.append_nil] at this
end
theorem range4 {n : Nat} (h : n ≤ 4) : Builtin.Range.small 0 (n : Int) 1 = true ∧ Builtin.Range.rangeSize 0 (n : Int) 1 = ((n : Nat) : Int) := by
  have : n = 0 ∨ n = 1 ∨ n = 2 ∨ n = 3 ∨ n = 4 := by omega
  rcases this with rfl | rfl | rfl | rfl | rfl <;> exact ⟨by decide +kernel, by decide +kernel⟩
/-- what a due tuple's place gives to the pairs -/
def pickD (D : List PySem.Value) (i : Nat) : Option PySem.Value := match D[i]? with
  | some .none => none
  | r => r
theorem due_case (k : Nat) {a b c : PySem.Value} (na : a ≠ .none) (nb : b ≠ .none) (nc : c ≠ .none) {i : Nat} (hi : i < (due7 k a b c).length) : ∃ x, (due7 k a b c)[i]? = some x ∧ ((x = .none ∧ pickD (due7 k a b c) i = none) ∨ ((x = a ∨ x = b ∨ x = c) ∧ x ≠ .none ∧ pickD (due7 k a b c) i = some x)) := by
  obtain ⟨x, hg⟩ : ∃ x, (due7 k a b c)[i]? = some x := ⟨_, List.getElem?_eq_getElem hi⟩
  refine ⟨x, hg, ?_⟩
  have hm : x = .none ∨ x = a ∨ x = b ∨ x = c := by
    have hx := List.mem_of_getElem? hg
    unfold due7 at hx
    split at hx <;> simp only [List.mem_cons, List.not_mem_nil, or_false] at hx <;> first | (rcases hx with h | h | h | h <;> simp [h]; done) | (rcases hx with h | h | h <;> simp [h]; done) | (rcases hx with h | h <;> simp [h]; done) | (simp [hx]; done)
  unfold pickD
  rw [hg]
  rcases hm with rfl | hm
  · exact .inl ⟨rfl, rfl⟩
  · have hx : x ≠ .none := by rcases hm with rfl | rfl | rfl <;> assumption
    refine .inr ⟨hm, hx, ?_⟩
    cases x <;> first | rfl | exact absurd rfl hx
theorem news_rot {h₀ h : Heap} {L : Addr} {x1 x2 x3 q : Addr × Obj} {base led : List (Addr × Obj)} (N : News h₀ L h (q :: x1 :: x2 :: x3 :: (base ++ led))) : News h₀ L h (x1 :: x2 :: x3 :: (base ++ (led ++ [q]))) := fun p hp => N p (by
  simp only [List.mem_cons, List.mem_append, List.not_mem_nil, or_false] at hp ⊢
  rcases hp with h | h | h | h | h | h
  · exact .inr (.inl h)
  · exact .inr (.inr (.inl h))
  · exact .inr (.inr (.inr (.inl h)))
  · exact .inr (.inr (.inr (.inr (.inl h))))
  · exact .inr (.inr (.inr (.inr (.inr h))))
  · exact .inl h)
end
section
open PySem PySem.W PySem.Calls PyProof.Rows PySem.SeqAt
set_option Elab.async false
set_option maxRecDepth 100000
set_option maxHeartbeats 4000000
set_option linter.unusedVariables false
section
variable {p : Program} {loose : List PySem.Str} {mean : ExcName → Option PySem.Value} {mg mb : PySem.Str → Option PySem.Value}
variable {w : World} {A : Around} {E : PySem.Value → Shared → Prop} {s : Shared} {h₀ h : Heap} {L : Addr} {m : PySem.Str → Option PySem.Value} {news : List (Addr × Obj)} {Q : PySem.Value → Shared → Prop} {k : Int} {a b c v : PySem.Value} {da db dc dv : PyData} {msg : PySem.Str} {e : Addr} {value slice : PySem.Expr}
/-- _law_very asked of a name and itself -/
theorem very_use (F : Fr h₀ L s.heap m) (X : (KP7 w).In s.heap) (T : Top p loose mean mg mb s.heap) (N : News h₀ L s.heap news) (x : V7 s.heap v dv) (a1 : A.handled = none) (a2 : A.guards = some []) (a3 : A.depth ≤ 600) (a4 : A.units ≤ 2000)
    (q : ∀ h' tk, Fr h₀ L h' m → News h₀ L h' news → Q (.bool true) { s with heap := h', toks := tk }) : wpAny (model P07 w) A (call (.ref 208) [v, v]) Q E s := by
  refine weaken a1 a2 a3 a4 ?_
  cases x with
  | str t => exact very7_s w s t t Q E X T fun h' tk g => q h' tk (fr_grow F g) (news_grow N g)
  | list a b c e => exact very7_l w s _ _ _ a Q E X T fun h' tk g => q h' tk (fr_grow F g) (news_grow N g)
  | tup a b c e f => exact very7_t w s _ _ a Q E X T fun h' tk g => q h' tk (fr_grow F g) (news_grow N g)
theorem ne_nil7 {prog : Program} {a b : Addr} {n1 n2 : Nat} (N : News h₀ L s.heap news) (m1 : (a, listOf #[] n1) ∈ news) (m2 : (b, listOf #[] n2) ∈ news) (hu : A.units + 2 < cLine) (q : Q (.bool false) s) :
    wpAny (model prog w) A (compareOp .NotEq (.ref a) (.ref b)) Q E s := by
  have := RcNeAt.lists (A := A) (e := fun _ => true) (News.isList N m1) (News.isList N m2) rfl (by omega) fun j h1 h2 => absurd h2 (by simp)
  exact this prog w E Q q
theorem ne_str7 {prog : Program} {i : PySem.Str} {t u : Tok} (q : Q (.bool false) s) : wpAny (model prog w) A (compareOp .NotEq (.str i t) (.str i u)) Q E s := by
  have := RcNeAt.str_str (A := A) (s := s) i t i u
  rw [show (!(i == i)) = false by simp] at this
  exact this prog w E Q q
theorem mul3_7 {prog : Program} {l : Addr} {v : PySem.Value} {n : Nat} {u : Tok} (F : Fr h₀ L s.heap m) (N : News h₀ L s.heap news) (hm : (l, listOf #[v] n) ∈ news) (h : ∀ D h', Fr h₀ L h' m → News h₀ L h' ((D, listOf #[v, v, v] 0) :: news) → Q (.ref D) { s with heap := h' }) :
    wpAny (model prog w) A (binaryOp .Mult (.ref l) (.int 3 u)) Q E s :=
  mul_list F N (N _ hm).1 (by decide) (by decide) (by show 1 * 3 ≤ 2 ^ 24; decide) fun h' F' N' => h _ h' F' N'
theorem eq3_7 {prog : Program} {x : PySem.Str} {a b : Addr} {t1 t2 t3 u1 u2 u3 : Tok} {n1 n2 : Nat} (N : News h₀ L s.heap news) (m1 : (a, listOf #[.str x t1, .str x t2, .str x t3] n1) ∈ news) (m2 : (b, listOf #[.str x u1, .str x u2, .str x u3] n2) ∈ news) (hu : A.units + 64 < cLine) (q : Q (.bool true) s) :
    wpAny (model prog w) A (compareOp .Eq (.ref a) (.ref b)) Q E s := by
  have es : ∀ t u, EqAt A.in1 s (.str x t) (.str x u) true := fun t u => by simpa using EqAt.str_str (A := A.in1) (s := s) x t x u
  have := RcAt.lists (A := A) (e := fun _ => true) (News.isList N m1) (News.isList N m2) rfl (by omega) fun j h1 h2 => by
    rcases (by simp at h1; omega : j = 0 ∨ j = 1 ∨ j = 2) with rfl | rfl | rfl <;> exact es _ _
  exact this prog w E Q q
/-- the last of args -/
theorem item_last7 {prog : Program} {a : Addr} {xs : List PySem.Value} {u : Tok} {v : PySem.Value} (ho : s.heap.get? a = some (tupObj (xs ++ [v]))) (hl : xs.length ≤ 10) (h : Q v s)
    (hs : subscripted slice false (.ref a) (.int (-1) u) = operate [.ref a, .int (-1) u] (getItem (.ref a) (.int (-1) u)) := by with_unfolding_all rfl) :
    wpAny (model prog w) A (subscriptTail value slice (.ref a) (.int (-1) u)) Q E s := by
  refine item_tupleT (j := xs.length) (l := xs ++ [v]) ⟨_, ho, rfl, _, rfl⟩ (by decide) (by decide) ?_ (by simp) h hs
  unfold seqIndex?
  simp
  omega
theorem getm7 {expr : Bool} {K : Frag} {od : Obj} {d t C : Addr} {u : Tok} (X : K.In s.heap) (h1 : s.heap.get? e = some (excObj C (some d) t)) (h2 : s.heap.get? d = some od) (c1 : clsB K C 36 = true) (n : nameB K C (Str.ofString "message") = true) (hm : lookIn (Str.ofString "message") od = some (some (.str msg u)))
    {prog : Program} (q : Q (.str msg u) { s with toks := s.toks + 1 }) : wpAny (model prog w) A (getAttr (.ref e) (Str.ofString "message") expr) Q E s :=
  gets_field X h1 h2 c1 n hm rfl A s Q E expr (Grow.refl _) q
theorem tells_7 {C d ta : Addr} {od : Obj} {t : PySem.Str} {u : Tok} (X : (KP7 w).In s.heap) (T : Top p loose mean mg mb s.heap) (he : s.heap.get? e = some (excObj C (some d) ta)) (hd : s.heap.get? d = some od) (c : clsB (KP7 w) C 36 = true) (n : nameB (KP7 w) C (Str.ofString "message") = true) (hm : lookIn (Str.ofString "message") od = some (some (.str t u))) :
    Tells P07 w s.heap 36 e t := fun A s' Q E a1 a3 a4 g q => weakenN a1 a3 a4 (msg07 w s' e t u ((gets_field X he hd c n hm rfl).grow g) Q E (X.keeps g) (T.keeps g) fun h' tk u g' => q h' u tk g')
theorem str_7 {C d ta : Addr} {od : Obj} {t : PySem.Str} {u : Tok} (F : Fr h₀ L s.heap m) (X : (KP7 w).In s.heap) (T : Top p loose mean mg mb s.heap) (N : News h₀ L s.heap news) (he : s.heap.get? e = some (excObj C (some d) ta)) (hd : s.heap.get? d = some od) (c : clsB (KP7 w) C 36 = true) (n : nameB (KP7 w) C (Str.ofString "message") = true) (hm : lookIn (Str.ofString "message") od = some (some (.str t u)))
    (a1 : A.handled = none) (a3 : A.depth ≤ 850) (a4 : A.units ≤ 4200) (q : ∀ h' u tk, Fr h₀ L h' m → News h₀ L h' news → Q (.str t u) { s with heap := h', toks := tk }) : wpAny (model P07 w) A (call (.type "str") [.ref e]) Q E s :=
  strOk_of X he hd c (tells_7 X T he hd c n hm) A s Q E a1 a3 a4 (Grow.refl _) fun h' u tk g => q h' u tk (fr_grow F g) (news_grow N g)
theorem repr_7 {C d ta : Addr} {od : Obj} {t : PySem.Str} {u : Tok} (F : Fr h₀ L s.heap m) (X : (KP7 w).In s.heap) (T : Top p loose mean mg mb s.heap) (N : News h₀ L s.heap news) (he : s.heap.get? e = some (excObj C (some d) ta)) (hd : s.heap.get? d = some od) (c : clsB (KP7 w) C 36 = true) (n : nameB (KP7 w) C (Str.ofString "message") = true) (hm : lookIn (Str.ofString "message") od = some (some (.str t u))) (hl : t.length ≤ 1000000)
    (a1 : A.handled = none) (a2 : A.guards = some []) (a3 : A.depth ≤ 800) (a4 : A.units ≤ 4000) (q : ∀ h' u tk, Fr h₀ L h' m → News h₀ L h' news → Q (.str t u) { s with heap := h', toks := tk }) : wpAny (model P07 w) A (call (.builtin "repr") [.ref e]) Q E s :=
  (repErr_of X he hd c (tells_7 X T he hd c n hm) hl).call A s Q E a1 a2 a3 a4 (Grow.refl _) fun h' u tk g => q h' u tk (fr_grow F g) (news_grow N g)
/-- _law_made, in a frame with a ledger -/
theorem made_use {kt : Tok} (h0 : 0 ≤ k) (h6 : k < 6) (F : Fr h₀ L s.heap m) (X : (KP7 w).In s.heap) (T : Top p loose mean mg mb s.heap) (N : News h₀ L s.heap news) (xa : V7 s.heap a da) (xb : V7 s.heap b db) (xc : V7 s.heap c dc) (a1 : A.handled = none) (a2 : A.guards = some []) (a3 : A.depth ≤ 550) (a4 : A.units ≤ 1800)
    (q : ∀ h' tk e d t od u, Grow s.heap h' → Fr h₀ L h' m → News h₀ L h' ((e, excObj (cls7 k.toNat) (some d) t) :: (d, od) :: (t, tupObj (due7 k.toNat a b c)) :: news) → AllNe e news → AllNe d news → AllNe t news → lookIn "message" od = some (some (.str (msg7 k.toNat da.shown db.shown dc.shown) u)) → Fields od (flds7 k.toNat a b c) → Q (.ref e) { s with heap := h', toks := tk }) :
    wpAny (model P07 w) A (call (.ref 184) [.int k kt, a, b, c]) Q E s := by
  refine weaken a1 a2 a3 a4 (made7 w s k kt h0 h6 a b c _ _ _ xa.rep xb.rep xc.rep xb.not_none xc.not_none Q E X T fun h' tk e d t od u g n => ?_)
  have hL : ∀ a, s.heap.get? a = none → a ≠ L := fun a ha z => by
    obtain ⟨o, _, _, ho, _⟩ := F.ns
    rw [z, ho] at ha; cases ha
  have h0 : ∀ a, s.heap.get? a = none → h₀.get? a = none := fun a ha => by
    cases q : h₀.get? a with
    | none => rfl
    | some o => rw [F.keep _ _ q] at ha; cases ha
  have hne : ∀ a, s.heap.get? a = none → AllNe a news := fun a ha => allNe_of fun p hp z => by
    have := (N p hp).1
    rw [z, ha] at this; cases this
  refine q h' tk e d t od u g (fr_grow F g) ?_ (hne _ n.ne) (hne _ n.nd) (hne _ n.nt) n.hm n.hf
  intro p hp
  rcases List.mem_cons.mp hp with rfl | hp
  · exact ⟨n.he, hL _ n.ne, h0 _ n.ne⟩
  rcases List.mem_cons.mp hp with rfl | hp
  · exact ⟨n.hd, hL _ n.nd, h0 _ n.nd⟩
  rcases List.mem_cons.mp hp with rfl | hp
  · exact ⟨n.ht, hL _ n.nt, h0 _ n.nt⟩
  · exact news_grow N g _ hp
theorem words_use {kt : Tok} (h0 : 0 ≤ k) (h6 : k < 6) (F : Fr h₀ L s.heap m) (X : (KP7 w).In s.heap) (T : Top p loose mean mg mb s.heap) (N : News h₀ L s.heap news) (xa : V7 s.heap a da) (xb : V7 s.heap b db) (xc : V7 s.heap c dc) (a1 : A.handled = none) (a2 : A.guards = some []) (a3 : A.depth ≤ 550) (a4 : A.units ≤ 1800)
    (q : ∀ h' tk u, Fr h₀ L h' m → News h₀ L h' news → Q (.str (msg7 k.toNat da.shown db.shown dc.shown) u) { s with heap := h', toks := tk }) :
    wpAny (model P07 w) A (call (.ref 201) [.int k kt, a, b, c]) Q E s :=
  weaken a1 a2 a3 a4 (words7 w s k kt h0 h6 a b c _ _ _ xa xb xc Q E X T fun h' tk u g => q h' tk u (fr_grow F g) (news_grow N g))
end
theorem joinQ7 {M : Model} {A : Around} {E : PySem.Value → Shared → Prop} {s : Shared} {h₀ : Heap} {Q : Flow → Shared → Prop} {L : Addr} {m : PySem.Str → Option PySem.Value} {news : List (Addr × Obj)} {t : Sem Flow} (F : Fr h₀ L s.heap m) (N : News h₀ L s.heap news)
    (h1 : ∀ Q' : Flow → Shared → Prop, (∀ h' tk, Fr h₀ L h' m → News h₀ L h' news → Q' .next { s with heap := h', toks := tk }) → wpAny M A t Q' E s)
    (h2 : ∀ h' tk, Fr h₀ L h' m → News h₀ L h' news → Q .next { s with heap := h', toks := tk }) : wpAny M A t Q E s := h1 Q h2
theorem pairs7 {hh : Heap} {k : Nat} {a b c : PySem.Value} {da db dc : PyData} {qs : List Addr} {ys : List PySem.Value} {led7 led : List (Addr × Obj)} {n : Nat} (xa : V7 hh a da) (xb : V7 hh b db) (xc : V7 hh c dc)
    (hq : ∀ y ∈ qs, ∃ x, (x = a ∨ x = b ∨ x = c) ∧ (y, tupObj [x, x]) ∈ led7)
    (hy : ∀ y ∈ ys, ∃ q v, y = .ref q ∧ (q, tupObj [v, v]) ∈ led ∧ ∃ i, i < n ∧ pickD (due7 k a b c) i = some v) :
    ∀ v ∈ (qs.map PySem.Value.ref ++ ys), ∃ q x D, v = .ref q ∧ (q, tupObj [x, x]) ∈ led7 ++ led ∧ V7 hh x D := by
  have one : ∀ x, (x = a ∨ x = b ∨ x = c) → ∃ D, V7 hh x D := by
    rintro x (rfl | rfl | rfl)
    · exact ⟨_, xa⟩
    · exact ⟨_, xb⟩
    · exact ⟨_, xc⟩
  intro v hv
  rcases List.mem_append.mp hv with hv | hv
  · obtain ⟨q, hq', rfl⟩ := List.mem_map.mp hv
    obtain ⟨x, hx, hm⟩ := hq q hq'
    obtain ⟨D, hD⟩ := one x hx
    exact ⟨q, x, D, rfl, List.mem_append_left _ hm, hD⟩
  · obtain ⟨q, x, rfl, hm, i, hi, hp⟩ := hy v hv
    have hi' : i < (due7 k a b c).length := by
      rcases Nat.lt_or_ge i (due7 k a b c).length with h | h
      · exact h
      · unfold pickD at hp
        rw [List.getElem?_eq_none h] at hp
        cases hp
    obtain ⟨x', hx', hc⟩ := due_case k xa.not_none xb.not_none xc.not_none hi'
    rcases hc with ⟨_, hp'⟩ | ⟨hm', _, hp'⟩
    · rw [hp] at hp'; cases hp'
    · rw [hp] at hp'
      cases hp'
      obtain ⟨D, hD⟩ := one _ hm'
      exact ⟨q, x, D, rfl, List.mem_append_right _ hm, hD⟩
end
section
theorem layR071 : True := by
  k_with_none
  k_with "ne" => (with_reducible (first | exact ns1 | exact ns2 | exact qlt (by assumption) | exact qgt (by assumption) | exact qne (by assumption) | exact qen (by assumption) | exact rlt (by assumption) | exact rgt (by assumption) | exact rne (by assumption) | exact ren (by assumption) | exact qlt (And.right (by assumption)) | exact qgt (And.right (by assumption)) | exact qne (And.right (by assumption)) | exact qen (And.right (by assumption)) | exact rlt (And.right (by assumption)) | exact rgt (And.right (by assumption)) | exact rne (And.right (by assumption)) | exact ren (And.right (by assumption)) | exact qlt (And.right (And.right (by assumption))) | exact qgt (And.right (And.right (by assumption))) | exact qne (And.right (And.right (by assumption))) | exact qen (And.right (And.right (by assumption))) | exact rlt (And.right (And.right (by assumption))) | exact rgt (And.right (And.right (by assumption))) | exact rne (And.right (And.right (by assumption))) | exact ren (And.right (And.right (by assumption))) | exact qlt (And.right (And.right (And.right (by assumption)))) | exact qgt (And.right (And.right (And.right (by assumption)))) | exact qne (And.right (And.right (And.right (by assumption)))) | exact qen (And.right (And.right (And.right (by assumption)))) | exact rlt (And.right (And.right (And.right (by assumption)))) | exact rgt (And.right (And.right (And.right (by assumption)))) | exact rne (And.right (And.right (And.right (by assumption)))) | exact ren (And.right (And.right (And.right (by assumption)))) | exact qlt (And.right (And.right (And.right (And.right (by assumption))))) | exact qgt (And.right (And.right (And.right (And.right (by assumption))))) | exact qne (And.right (And.right (And.right (And.right (by assumption))))) | exact qen (And.right (And.right (And.right (And.right (by assumption))))) | exact rlt (And.right (And.right (And.right (And.right (by assumption))))) | exact rgt (And.right (And.right (And.right (And.right (by assumption))))) | exact rne (And.right (And.right (And.right (And.right (by assumption))))) | exact ren (And.right (And.right (And.right (And.right (by assumption))))) | exact qlt (And.right (And.right (And.right (And.right (And.right (by assumption)))))) | exact qgt (And.right (And.right (And.right (And.right (And.right (by assumption)))))) | exact qne (And.right (And.right (And.right (And.right (And.right (by assumption)))))) | exact qen (And.right (And.right (And.right (And.right (And.right (by assumption)))))) | exact rlt (And.right (And.right (And.right (And.right (And.right (by assumption)))))) | exact rgt (And.right (And.right (And.right (And.right (And.right (by assumption)))))) | exact rne (And.right (And.right (And.right (And.right (And.right (by assumption)))))) | exact ren (And.right (And.right (And.right (And.right (And.right (by assumption)))))) | exact qlt (And.right (And.right (And.right (And.right (And.right (And.right (by assumption))))))) | exact qgt (And.right (And.right (And.right (And.right (And.right (And.right (by assumption))))))) | exact qne (And.right (And.right (And.right (And.right (And.right (And.right (by assumption))))))) | exact qen (And.right (And.right (And.right (And.right (And.right (And.right (by assumption))))))) | exact rlt (And.right (And.right (And.right (And.right (And.right (And.right (by assumption))))))) | exact rgt (And.right (And.right (And.right (And.right (And.right (And.right (by assumption))))))) | exact rne (And.right (And.right (And.right (And.right (And.right (And.right (by assumption))))))) | exact ren (And.right (And.right (And.right (And.right (And.right (And.right (by assumption))))))) | exact qlt (And.right (And.right (And.right (And.right (And.right (And.right (And.right (by assumption)))))))) | exact qgt (And.right (And.right (And.right (And.right (And.right (And.right (And.right (by assumption)))))))) | exact qne (And.right (And.right (And.right (And.right (And.right (And.right (And.right (by assumption)))))))) | exact qen (And.right (And.right (And.right (And.right (And.right (And.right (And.right (by assumption)))))))) | exact rlt (And.right (And.right (And.right (And.right (And.right (And.right (And.right (by assumption)))))))) | exact rgt (And.right (And.right (And.right (And.right (And.right (And.right (And.right (by assumption)))))))) | exact rne (And.right (And.right (And.right (And.right (And.right (And.right (And.right (by assumption)))))))) | exact ren (And.right (And.right (And.right (And.right (And.right (And.right (And.right (by assumption)))))))) | exact qlt (And.right (And.right (And.right (And.right (And.right (And.right (And.right (And.right (by assumption))))))))) | exact qgt (And.right (And.right (And.right (And.right (And.right (And.right (And.right (And.right (by assumption))))))))) | exact qne (And.right (And.right (And.right (And.right (And.right (And.right (And.right (And.right (by assumption))))))))) | exact qen (And.right (And.right (And.right (And.right (And.right (And.right (And.right (And.right (by assumption))))))))) | exact rlt (And.right (And.right (And.right (And.right (And.right (And.right (And.right (And.right (by assumption))))))))) | exact rgt (And.right (And.right (And.right (And.right (And.right (And.right (And.right (And.right (by assumption))))))))) | exact rne (And.right (And.right (And.right (And.right (And.right (And.right (And.right (And.right (by assumption))))))))) | exact ren (And.right (And.right (And.right (And.right (And.right (And.right (And.right (And.right (by assumption))))))))) | exact qlt (And.right (And.right (And.right (And.right (And.right (And.right (And.right (And.right (And.right (by assumption)))))))))) | exact qgt (And.right (And.right (And.right (And.right (And.right (And.right (And.right (And.right (And.right (by assumption)))))))))) | exact qne (And.right (And.right (And.right (And.right (And.right (And.right (And.right (And.right (And.right (by assumption)))))))))) | exact qen (And.right (And.right (And.right (And.right (And.right (And.right (And.right (And.right (And.right (by assumption)))))))))) | exact rlt (And.right (And.right (And.right (And.right (And.right (And.right (And.right (And.right (And.right (by assumption)))))))))) | exact rgt (And.right (And.right (And.right (And.right (And.right (And.right (And.right (And.right (And.right (by assumption)))))))))) | exact rne (And.right (And.right (And.right (And.right (And.right (And.right (And.right (And.right (And.right (by assumption)))))))))) | exact ren (And.right (And.right (And.right (And.right (And.right (And.right (And.right (And.right (And.right (by assumption)))))))))) | exact qlt (And.right (And.right (And.right (And.right (And.right (And.right (And.right (And.right (And.right (And.right (by assumption))))))))))) | exact qgt (And.right (And.right (And.right (And.right (And.right (And.right (And.right (And.right (And.right (And.right (by assumption))))))))))) | exact qne (And.right (And.right (And.right (And.right (And.right (And.right (And.right (And.right (And.right (And.right (by assumption))))))))))) | exact qen (And.right (And.right (And.right (And.right (And.right (And.right (And.right (And.right (And.right (And.right (by assumption))))))))))) | exact rlt (And.right (And.right (And.right (And.right (And.right (And.right (And.right (And.right (And.right (And.right (by assumption))))))))))) | exact rgt (And.right (And.right (And.right (And.right (And.right (And.right (And.right (And.right (And.right (And.right (by assumption))))))))))) | exact rne (And.right (And.right (And.right (And.right (And.right (And.right (And.right (And.right (And.right (And.right (by assumption))))))))))) | exact ren (And.right (And.right (And.right (And.right (And.right (And.right (And.right (And.right (And.right (And.right (by assumption))))))))))) | exact qlt (And.right (And.right (And.right (And.right (And.right (And.right (And.right (And.right (And.right (And.right (And.right (by assumption)))))))))))) | exact qgt (And.right (And.right (And.right (And.right (And.right (And.right (And.right (And.right (And.right (And.right (And.right (by assumption)))))))))))) | exact qne (And.right (And.right (And.right (And.right (And.right (And.right (And.right (And.right (And.right (And.right (And.right (by assumption)))))))))))) | exact qen (And.right (And.right (And.right (And.right (And.right (And.right (And.right (And.right (And.right (And.right (And.right (by assumption)))))))))))) | exact rlt (And.right (And.right (And.right (And.right (And.right (And.right (And.right (And.right (And.right (And.right (And.right (by assumption)))))))))))) | exact rgt (And.right (And.right (And.right (And.right (And.right (And.right (And.right (And.right (And.right (And.right (And.right (by assumption)))))))))))) | exact rne (And.right (And.right (And.right (And.right (And.right (And.right (And.right (And.right (And.right (And.right (And.right (by assumption)))))))))))) | exact ren (And.right (And.right (And.right (And.right (And.right (And.right (And.right (And.right (And.right (And.right (And.right (by assumption)))))))))))) | exact qlt (And.right (And.right (And.right (And.right (And.right (And.right (And.right (And.right (And.right (And.right (And.right (And.right (by assumption))))))))))))) | exact qgt (And.right (And.right (And.right (And.right (And.right (And.right (And.right (And.right (And.right (And.right (And.right (And.right (by assumption))))))))))))) | exact qne (And.right (And.right (And.right (And.right (And.right (And.right (And.right (And.right (And.right (And.right (And.right (And.right (by assumption))))))))))))) | exact qen (And.right (And.right (And.right (And.right (And.right (And.right (And.right (And.right (And.right (And.right (And.right (And.right (by assumption))))))))))))) | exact rlt (And.right (And.right (And.right (And.right (And.right (And.right (And.right (And.right (And.right (And.right (And.right (And.right (by assumption))))))))))))) | exact rgt (And.right (And.right (And.right (And.right (And.right (And.right (And.right (And.right (And.right (And.right (And.right (And.right (by assumption))))))))))))) | exact rne (And.right (And.right (And.right (And.right (And.right (And.right (And.right (And.right (And.right (And.right (And.right (And.right (by assumption))))))))))))) | exact ren (And.right (And.right (And.right (And.right (And.right (And.right (And.right (And.right (And.right (And.right (And.right (And.right (by assumption))))))))))))) | exact qlt (And.right (And.right (And.right (And.right (And.right (And.right (And.right (And.right (And.right (And.right (And.right (And.right (And.right (by assumption)))))))))))))) | exact qgt (And.right (And.right (And.right (And.right (And.right (And.right (And.right (And.right (And.right (And.right (And.right (And.right (And.right (by assumption)))))))))))))) | exact qne (And.right (And.right (And.right (And.right (And.right (And.right (And.right (And.right (And.right (And.right (And.right (And.right (And.right (by assumption)))))))))))))) | exact qen (And.right (And.right (And.right (And.right (And.right (And.right (And.right (And.right (And.right (And.right (And.right (And.right (And.right (by assumption)))))))))))))) | exact rlt (And.right (And.right (And.right (And.right (And.right (And.right (And.right (And.right (And.right (And.right (And.right (And.right (And.right (by assumption)))))))))))))) | exact rgt (And.right (And.right (And.right (And.right (And.right (And.right (And.right (And.right (And.right (And.right (And.right (And.right (And.right (by assumption)))))))))))))) | exact rne (And.right (And.right (And.right (And.right (And.right (And.right (And.right (And.right (And.right (And.right (And.right (And.right (And.right (by assumption)))))))))))))) | exact ren (And.right (And.right (And.right (And.right (And.right (And.right (And.right (And.right (And.right (And.right (And.right (And.right (And.right (by assumption)))))))))))))) | exact qlt (And.right (And.right (And.right (And.right (And.right (And.right (And.right (And.right (And.right (And.right (And.right (And.right (And.right (And.right (by assumption))))))))))))))) | exact qgt (And.right (And.right (And.right (And.right (And.right (And.right (And.right (And.right (And.right (And.right (And.right (And.right (And.right (And.right (by assumption))))))))))))))) | exact qne (And.right (And.right (And.right (And.right (And.right (And.right (And.right (And.right (And.right (And.right (And.right (And.right (And.right (And.right (by assumption))))))))))))))) | exact qen (And.right (And.right (And.right (And.right (And.right (And.right (And.right (And.right (And.right (And.right (And.right (And.right (And.right (And.right (by assumption))))))))))))))) | exact rlt (And.right (And.right (And.right (And.right (And.right (And.right (And.right (And.right (And.right (And.right (And.right (And.right (And.right (And.right (by assumption))))))))))))))) | exact rgt (And.right (And.right (And.right (And.right (And.right (And.right (And.right (And.right (And.right (And.right (And.right (And.right (And.right (And.right (by assumption))))))))))))))) | exact rne (And.right (And.right (And.right (And.right (And.right (And.right (And.right (And.right (And.right (And.right (And.right (And.right (And.right (And.right (by assumption))))))))))))))) | exact ren (And.right (And.right (And.right (And.right (And.right (And.right (And.right (And.right (And.right (And.right (And.right (And.right (And.right (And.right (by assumption))))))))))))))) | exact qlt (And.right (And.right (And.right (And.right (And.right (And.right (And.right (And.right (And.right (And.right (And.right (And.right (And.right (And.right (And.right (by assumption)))))))))))))))) | exact qgt (And.right (And.right (And.right (And.right (And.right (And.right (And.right (And.right (And.right (And.right (And.right (And.right (And.right (And.right (And.right (by assumption)))))))))))))))) | exact qne (And.right (And.right (And.right (And.right (And.right (And.right (And.right (And.right (And.right (And.right (And.right (And.right (And.right (And.right (And.right (by assumption)))))))))))))))) | exact qen (And.right (And.right (And.right (And.right (And.right (And.right (And.right (And.right (And.right (And.right (And.right (And.right (And.right (And.right (And.right (by assumption)))))))))))))))) | exact rlt (And.right (And.right (And.right (And.right (And.right (And.right (And.right (And.right (And.right (And.right (And.right (And.right (And.right (And.right (And.right (by assumption)))))))))))))))) | exact rgt (And.right (And.right (And.right (And.right (And.right (And.right (And.right (And.right (And.right (And.right (And.right (And.right (And.right (And.right (And.right (by assumption)))))))))))))))) | exact rne (And.right (And.right (And.right (And.right (And.right (And.right (And.right (And.right (And.right (And.right (And.right (And.right (And.right (And.right (And.right (by assumption)))))))))))))))) | exact ren (And.right (And.right (And.right (And.right (And.right (And.right (And.right (And.right (And.right (And.right (And.right (And.right (And.right (And.right (And.right (by assumption))))))))))))))))))
  trivial
theorem layR072 : True := by
  k_with "mine texts" => ((try dsimp only [← sx0, ← sx1, ← sx2, ← sx3, ← sx4, ← sx5, ← sx6, ← sx7, ← sx8, ← sx9, ← sx10, ← sx11, ← sx12, ← sx13, ← sx14, ← sx15, ← sx16, ← sx17, ← sx18, ← sx19, ← sx20, ← sx21, ← sx22, ← sx23, ← sx24, ← sx25, ← sx26, ← sx27, ← sx28, ← sx29, ← sx30, ← sx31, ← sx32, ← sx33, ← sx34, ← sx35, ← sx36, ← sx37, ← sx38, ← sx39, ← sx40, ← sx41, ← sx42, ← sx43, ← sx44, ← sx45, ← sx46, ← sx47, ← sx48, ← sx49, ← sx50, ← sx51, ← sx52, ← sx53, ← sx54, ← sx55, ← sx56, ← sx57, ← sx58, ← sx59, ← sx60, ← sx61, ← sx62, ← sx63, ← sx64, ← sx65, ← sx66, ← sx67, ← sx68, ← sx69, ← sx70, ← sx71, ← sx72, ← sx73, ← sx74, ← sx75, ← sx76, ← sx77, ← sx78, ← sx79, ← sx80, ← sx81, ← sx82, ← sx83, ← sx84, ← sx85, ← sx86, ← sx87, ← sx88, ← sx89, ← sx90, ← sx91, ← sx92, ← sx93, ← sx94, ← sx95, ← sx96, ← sx97, ← sx98, ← sx99, ← sx100, ← sx101, ← sx102, ← sx103, ← sx104, ← sx105, ← sx106, ← sx107, ← sx108, ← sx109]))
  k_with "mine drop" => (first | (refine' Drop.head ?a; (case a => k_all)) | (refine' Drop.tail ?a ?b; (case a => k_ne); (case b => walk_at "mine drop")))
  k_with "setAttr ref" => ((k_here; k_dflt (first | (refine' exc_set0 ?k1 ?k2 ?k3 ?k4 ?k5 ?k6 ?k7 ?k8 ?k9 ?_; (case k1 => k_asm); (case k2 => k_asm); (case k3 => k_asm); (case k4 => k_mem); (case k5 => k_is); (case k6 => kernel_rfl); (case k7 => k_is); (case k8 => k_is); (case k9 => intro zqd; k_upd); k_whole; intro zqdp zqhp zqFp zqNp zql1; (try k_lt zql1)) | (refine' exc_set_args ?k1 ?k2 ?k3 ?k4 ?k5 ?k6 ?k7 ?k8 ?k9 ?k10 ?_; (case k1 => k_asm); (case k2 => k_asm); (case k3 => k_asm); (case k4 => first | (refine' InstAt.of_exc ?N ?h1 ?h2; (case N => k_asm); (case h1 => k_mem); (case h2 => k_mem)) | (refine' InstAt.of_exc0 ?N ?h1; (case N => k_asm); (case h1 => k_mem))); (case k5 => exact isTup_of (by k_asm) (by k_mem)); (case k6 => k_is); (case k7 => kernel_rfl); (case k8 => k_is); (case k9 => k_is); (case k10 => k_upd); k_whole; intro zqhp zqFp zqNp) | (refine' exc_set ?k1 ?k2 ?k3 ?k4 ?k5 ?k6 ?k7 ?k8 ?k9 ?k10 ?k11 ?k12 ?_; (case k1 => k_asm); (case k2 => k_asm); (case k3 => k_asm); (case k4 => first | (refine' InstAt.of_exc ?N ?h1 ?h2; (case N => k_asm); (case h1 => k_mem); (case h2 => k_mem)) | (refine' InstAt.of_exc0 ?N ?h1; (case N => k_asm); (case h1 => k_mem))); (case k5 => k_is); (case k6 => kernel_rfl); (case k7 => k_is); (case k8 => k_is); (case k9 => k_get); (case k10 => k_put); (case k11 => k_upd); (case k12 => exact Nat.le_of_ble_eq_true rfl); k_whole; intro zqhp zqFp zqNp))))
  k_with "call builtin:Exception.__init__" => ((k_here; k_dflt (refine' exc_init_call ?k1 ?k2 ?k3 ?k4 ?k5 ?k6 ?_; (case k1 => k_asm); (case k2 => k_asm); (case k3 => k_asm); (case k4 => first | (refine' InstAt.of_exc ?N ?h1 ?h2; (case N => k_asm); (case h1 => k_mem); (case h2 => k_mem)) | (refine' InstAt.of_exc0 ?N ?h1; (case N => k_asm); (case h1 => k_mem))); (case k5 => k_is); (case k6 => intro zqt; k_upd); k_whole; intro zqtp zqhp zqFp zqNp zql1; (try k_lt zql1))))
  k_with "call builtin:repr" => ((k_here; k_dflt (refine' repr_use ?k1 ?k2 ?k3 ?k4 ?k5 ?k6 ?k7 ?_; (case k1 => assumption); (case k2 => k_asm); (case k3 => k_asm); (case k4 => exact rfl); (case k5 => exact rfl); (case k6 => exact Nat.le_of_ble_eq_true rfl); (case k7 => exact Nat.le_of_ble_eq_true rfl); k_whole; intro zqhp zqup zqtkp zqFp zqNp)))
  k_with "BackIn" => ((k_dflt (refine' back_ ?k1 ?k2 ?k3 ?_; (case k1 => k_asm); (case k2 => k_asm); (case k3 => walk_at "mine drop"); k_whole; intro zqFp zqNp; (try dsimp only))))
  k_with "call ref" => ((k_here; k_dflt (refine wpAny_call ?_; refine' enter_in ?k1 ?k2 ?k3 ?k4 ?k5 ?k6 ?k7 ?k8 ?kB ?c2 ?c3 ?c4 ?c5 ?_; (case k1 => k_asm); (case k2 => k_asm); (case k3 => k_asm); (case k4 => exact Top.nolimit (by assumption)); (case k5 => k_is); (case k6 => k_is); (case k7 => exact Nat.le_of_ble_eq_true rfl); (case k8 => first | ((with_reducible show BindsTo _ _ ⟨[_], []⟩ _); first | exact BindsTo.of_eq (binds := [(_, _)]) rfl | exact binds_K (binds := [(_, _)]) (by k_in) rfl (by k_is) rfl rfl rfl) | ((with_reducible show BindsTo _ _ ⟨[_, _], []⟩ _); first | exact BindsTo.of_eq (binds := [(_, _), (_, _)]) rfl | exact binds_K (binds := [(_, _), (_, _)]) (by k_in) rfl (by k_is) rfl rfl rfl) | ((with_reducible show BindsTo _ _ ⟨[_, _, _], []⟩ _); first | exact BindsTo.of_eq (binds := [(_, _), (_, _), (_, _)]) rfl | exact binds_K (binds := [(_, _), (_, _), (_, _)]) (by k_in) rfl (by k_is) rfl rfl rfl) | ((with_reducible show BindsTo _ _ ⟨[_, _, _, _], []⟩ _); first | exact BindsTo.of_eq (binds := [(_, _), (_, _), (_, _), (_, _)]) rfl | exact binds_K (binds := [(_, _), (_, _), (_, _), (_, _)]) (by k_in) rfl (by k_is) rfl rfl rfl) | ((with_reducible show BindsTo _ _ ⟨[_, _, _, _, _], []⟩ _); first | exact BindsTo.of_eq (binds := [(_, _), (_, _), (_, _), (_, _), (_, _)]) rfl | exact binds_K (binds := [(_, _), (_, _), (_, _), (_, _), (_, _)]) (by k_in) rfl (by k_is) rfl rfl rfl)); (case c5 => decide); (case kB => exact locs rfl); (case c2 => exact rfl); (case c3 => exact rfl); (case c4 => exact rfl); k_whole; intro zqoLp zqLp zqhp zqtkp zqFp zqNp zql1 zqn1; (try k_lt zql1); (try (replace zqn1 := allNe_of zqn1; simp only [AllNe, and_true] at zqn1)); (try dsimp only); walk_at "mine texts")))
  k_with "call builtin:str.join" => ((k_here; (with_reducible show wpAny _ _ (call (Value.builtin "str.join") [Value.str _ _, Value.ref _]) _ _ _); k_dflt (refine join_listC (by is_list) (by repeat constructor) (by decide) (by (simp only [List.map_cons, List.map_nil, List.sum_cons, List.sum_nil, List.length_cons, List.length_nil]; omega)) ?_); intro zqtp zqkp))
  k_with "getMethod type:Exception" => ((k_here; refine' method_type ?F ?X ?m (by decide +kernel) ?e ?h ?_; (case F => k_asm); (case X => k_asm); (case m => exact meta_Exception); (case e => k_dflt k_is); (case h => k_handed)))
  k_with "compareOp IsNot" => ((k_here; k_dflt (refine isNot_none (by assumption) ?_)))
  k_with "call builtin:str.format" => ((k_here; k_dflt (refine' line_use ?k1 ?k2 ?k3 ?k4 ?k5 ?k6 ?k7 ?_; (case k1 => assumption); (case k2 => k_asm); (case k3 => k_asm); (case k4 => exact rfl); (case k5 => exact rfl); (case k6 => exact Nat.le_of_ble_eq_true rfl); (case k7 => exact Nat.le_of_ble_eq_true rfl); k_whole; intro zqhp zqup zqtkp zqFp zqNp)))
  k_with "call builtin:str.format" => ((k_here; (with_reducible show wpAny _ _ (call (Value.builtin "str.format") [Value.str _ _, _, _, _, _]) _ _ _); k_dflt (refine' fmt_use ?k1 ?k2 ?k3 ?k4 ?k5 ?_; (case k1 => k_asm); (case k2 => k_asm); (case k3 => exact ⟨rfl, rfl, Nat.le_of_ble_eq_true rfl, Nat.le_of_ble_eq_true rfl⟩); (case k4 => exact args_5 _ _ _ _ _); (case k5 => walk_at "mine fmt")); k_whole; intro zqhp zqup zqtkp zqFp zqNp))
  k_with "pyReprObj" => ((k_here; k_dflt (refine' reprObj_use ?k1 ?k2 ?k3 ?k4 ?k5 ?k6 ?k7 ?_; (case k1 => assumption); (case k2 => k_asm); (case k3 => k_asm); (case k4 => exact rfl); (case k5 => exact rfl); (case k6 => exact Nat.le_of_ble_eq_true rfl); (case k7 => exact Nat.le_of_ble_eq_true rfl); k_whole; intro zqhp zqup zqtkp zqFp zqNp)))
  trivial
def NoJ : Prop := True
theorem haltr_ {P : Prop} (h : Halt P) : P := h
theorem isl_up7 {h h' : Heap} {l : Addr} {xs : Array Value} (H : h.IsList l xs) (g : Grow h h') : h'.IsList l xs := let ⟨o, e, r⟩ := H; ⟨o, g _ _ e, r⟩
theorem layR073 : True := by
  k_with "assign Tuple" => ((k_here; (with_reducible show wpAny _ _ (assign (Expr.Tuple _ _ _) _ (Value.ref _)) _ _ _); k_dflt (refine' kun_list ?k1 ?k2 ?k3 ?k4 ?k5 ?k6 ?_; (case k1 => k_asm); (case k2 => k_asm); (case k3 => exact isl_up7 (by with_reducible assumption) (Fr.keep (by k_asm))); (case k4 => exact rfl); (case k5 => exact rfl); (case k6 => exact rfl); k_whole); intro zqhp zqFp zqNp))
  k_with "call ref" => ((k_here; refine haltr_ ?_))
  k_with "getAttr ref" => ((k_here; refine haltr_ ?_))
  k_with "subscriptTail" => ((k_here; refine haltr_ ?_))
  k_with "call builtin:len" => ((k_here; refine haltr_ ?_))
  k_with "call type:str" => ((k_here; refine haltr_ ?_))
  k_with "call builtin:repr" => ((k_here; refine haltr_ ?_))
  k_with "binaryOp" => ((k_here; refine haltr_ ?_))
  k_with "compareOp" => ((k_here; refine haltr_ ?_))
  k_with "compareOp NotEq ref ref" => ((k_here; refine haltr_ ?_))
  k_with "compareOp NotEq str str" => ((k_here; refine haltr_ ?_))
  k_with "compareOp Eq ref ref" => ((k_here; refine haltr_ ?_))
  k_with "compareOp NotEq int int" => ((k_here; k_dflt (refine ne_int7 ?_)))
  k_with "CompSrcT" => ((with_reducible refine haltr_ ?_))
  k_with "exec If BoolOp" => ((k_here; (fail_if_success (with_reducible rename NoJ => hj)); (with_reducible refine haltr_ ?_)))
  k_with "SrcN" => ((with_reducible refine haltr_ ?_))
  k_with "eval ListComp" => ((k_here; (with_reducible refine haltr_ ?_)))
  trivial
theorem right7 : ∀ {p : Program} {loose : List Str} {mean : ExcName → Option Value} {mg mb : Str → Option Value} (w : World) (s : Shared) (ra e : Addr) (k : Int) (kt ut : Tok) (n : Nat) (h0 : 0 ≤ k) (h6 : k < 6) (a b c : Value) (da db dc : PyData) (words : Str) (hr : s.heap.get? ra = some (listOf #[.ref e, .int k kt, a, b, c, .str words ut] n)) (er : Er7 s.heap k.toNat a b c words e) (xa : V7 s.heap a da) (xb : V7 s.heap b db) (xc : V7 s.heap c dc) (hw : words.length ≤ 1000000)
    (Q E : Value → Shared → Prop) (KX : (hz.heap_193 w.params).In s.heap) (T : Top p loose mean mg mb s.heap)
    (hQ : ∀ h' tk , Grow s.heap h' → Q (.bool true) { s with heap := h', toks := tk }),
    wpAny (model PySem.Challenge.rw_dm0028_07.prog w) (AD 450 1500) (call (.ref 213) [.ref ra]) Q E s := by
  w_top off
  k_fill
  intro p loose mean mg mb w s ra e k kt ut n h0 h6 a b c da db dc words hr er xa xb xc hw Q E KX T hQ
  obtain ⟨hh, g, dr, tk, os⟩ := s
  dsimp only at KX T hr er xa xb xc hQ
  w_strict (
  refine wpAny_call ?_
  k_dflt (refine' enter_newC (h₀ := hh) (binds := [("row", .ref ra)]) ?k1 ?k2 KX T.nolimit ?k5 ?k6 ?k7 ?k8 ?kB ?kD ?_ ?c2 ?c3 ?c4; (case k5 => k_is); (case k6 => k_is); (case k7 => exact Nat.le_of_ble_eq_true rfl); (case k8 => first | exact BindsTo.of_eq rfl | exact binds_K KX rfl (by k_is) rfl rfl rfl); (case kB => exact rfl); (case kD => decide +kernel); (case c2 => exact rfl); (case c3 => exact rfl); (case c4 => exact rfl); (case k1 => exact fun _ _ e => e); (case k2 => exact Nat.le_refl _))
  intro L' h' tk' cells' F' N' Y'
  k_cells Y'
  (try dsimp only)
  walk_at "mine texts"
  have hIL : hh.IsList ra #[.ref e, .int k kt, a, b, c, .str words ut] := ⟨_, hr, rfl, _, rfl⟩
  have er0 := er
  obtain ⟨d0, t0, od0, u0, he0, hd0, ht0, hm0, hf0⟩ := er
  have hda : handedIn a = true := xa.handed
  have hdb : handedIn b = true := xb.handed
  have hdc : handedIn c = true := xc.handed
  k_steps
  unfold Halt
  (with_reducible rename Fr _ _ _ _ => F3)
  (with_reducible rename News _ _ _ _ => N3)
  refine item_due (a := a) (b := b) (c := c) N3 (.head _) h0 h6 ?_
  intro td htd
  have hdl := due_len k.toNat a b c
  k_steps
  unfold Halt
  (with_reducible rename Fr _ _ _ _ => F4)
  (with_reducible rename News _ _ _ _ => N4)
  refine args7 (k := k.toNat) (KX.keeps F4.keep) (F4.keep _ _ he0) (F4.keep _ _ hd0) ?_
  dsimp only
  k_steps
  unfold Halt
  refine len_tup7 (F4.keep _ _ ht0) (by omega) ?_
  dsimp only
  k_steps
  unfold Halt
  (with_reducible rename Fr _ _ _ _ => F5)
  (with_reducible rename News _ _ _ _ => N5)
  refine len_tup7 ((N5 _ (htd _ (by k_mem) (by k_mem) (by k_mem) (by k_mem) (by k_mem) (by k_mem) )).1) (by omega) ?_
  dsimp only
  k_steps
  unfold Halt
  (with_reducible rename Fr _ _ _ _ => F6)
  (with_reducible rename News _ _ _ _ => N6)
  have htd6 := htd.at N6 (by k_mem) (by k_mem) (by k_mem) (by k_mem) (by k_mem) (by k_mem) 
  refine held_use h0 h6 F6 KX T N6 er0 hda hdb hdc rfl rfl (Nat.le_of_ble_eq_true rfl) (Nat.le_of_ble_eq_true rfl) ?_
  intro h7 tk7 l7 n7 qs7 led7 F7 N7 hq7 hf7
  clear F6 N6
  simp only [List.cons_append, List.nil_append] at N7
  dsimp only
  k_steps
  unfold Halt
  (with_reducible rename Fr _ _ _ _ => F8)
  (with_reducible rename News _ _ _ _ => N8)
  refine LCt.ListComp_T (F₀ := F8) (by with_unfolding_all rfl) (by decide) (by rfl) (by decide) (by rfl) ?_
  k_steps
  unfold Halt
  refine len_tup7 ((N8 _ (.tail _ (List.mem_append_left led7 htd6))).1) (by omega) ?_
  dsimp only
  k_steps
  unfold Halt
  (with_reducible rename IsRange _ _ _ _ _ _ _ _ => hRg)
  (with_reducible rename Fr _ _ _ _ => F9)
  (with_reducible rename News _ _ _ _ => N9)
  refine LCt.CompSrcT.range rfl F9 N9 hRg (range4 hdl).1 (range4 hdl).2 (by rw [sizeLine_eq]; omega) ?_
  intro g9
  refine comp_due (pickD (due7 k.toNat a b c)) ?zT ?zE ?zfin
  case zT =>
    intro i t ys led I oI C oC D m2 hh2 tkk E' hi hC hx F N Q' hQ'
    have hmT := (N _ (.tail _ (.tail _ (.tail _ (List.mem_append_left _ (.tail _ (List.mem_append_left led7 htd6))))))).1
    obtain ⟨xv, hxv, hcase⟩ := due_case k.toNat xa.not_none xb.not_none xc.not_none hi
    clear F9 N9
    simp only [List.cons_append] at N
    k_steps
    unfold Halt
    refine item_tupH i (by omega) hmT hxv (by omega) ?_
    (try dsimp only)
    rcases hcase with ⟨rfl, hp⟩ | ⟨hm, hne, hp⟩
    · rw [hp] at hQ'
      k_steps
      exact hQ' _ _ F N
    · rw [hp] at hQ'
      k_steps
      exact hQ' _ _ F N
  case zE =>
    intro i t v ys led I oI C oC D m2 hh2 tkk E' hi hpk hC hx F N Q' hQ'
    have hmT := (N _ (.tail _ (.tail _ (.tail _ (List.mem_append_left _ (.tail _ (List.mem_append_left led7 htd6))))))).1
    obtain ⟨xv, hxv, hcase⟩ := due_case k.toNat xa.not_none xb.not_none xc.not_none hi
    obtain rfl : xv = v := by
      rcases hcase with ⟨_, hp⟩ | ⟨_, _, hp⟩ <;> rw [hp] at hpk <;> cases hpk <;> rfl
    clear F9 N9
    simp only [List.cons_append] at N
    k_steps
    unfold Halt
    refine args7 (k := k.toNat) (KX.keeps F.keep) (F.keep _ _ he0) (F.keep _ _ hd0) ?_
    (try dsimp only)
    k_steps
    unfold Halt
    refine item_tupH i (by omega) (F.keep _ _ ht0) hxv (by omega) ?_
    (try dsimp only)
    k_steps
    unfold Halt
    refine item_tupH i (by omega) hmT hxv (by omega) ?_
    (try dsimp only)
    k_steps
    (with_reducible rename Fr _ _ _ _ => F10)
    (with_reducible rename News _ _ _ _ => N10)
    rename I < _ ∧ _ => hlt
    exact hQ' _ _ _ F10 (news_rot N10) (Nat.ne_of_gt hlt.1) (Nat.ne_of_gt hlt.2.1) (Nat.ne_of_gt hlt.2.2.1)
  case zfin =>
    intro ys led hy hyl
    intro D5 h5 tk5 F5 N5 off5
    clear F9 N9
    simp only [List.cons_append] at N5
    (try dsimp only)
    k_steps
    unfold Halt
    have hall : ∀ v ∈ (qs7.map PySem.Value.ref ++ ys), ∃ q x D, v = .ref q ∧ (q, tupObj [x, x]) ∈ led7 ++ led ∧ V7 hh x D := pairs7 xa xb xc hq7 hy
    (with_reducible rename Fr _ _ _ _ => Fa)
    (with_reducible rename News _ _ _ _ => Na)
    refine ListComp_N Fa (by with_unfolding_all rfl) (by decide) (by rfl) (by decide) (by rfl) (by rfl) (by decide) ?_
    k_steps
    unfold Halt
    (with_reducible rename Fr _ _ _ _ => Fb)
    (with_reducible rename News _ _ _ _ => Nb)
    refine ⟨_, _, _, _, rfl, rfl, Fb, Nb, .head _, ?zT2, ?zD2⟩
    case zT2 =>
      intro g8 i v hv
      obtain ⟨q8, x8, D8, rfl, hm8, xv8⟩ := hall v (List.mem_of_getElem? (by simpa using hv))
      refine ⟨q8, x8, x8, rfl, .tail _ (.tail _ (.tail _ (.tail _ (.tail _ (.tail _ (.tail _ (.tail _ (.tail _ (.tail _ (.tail _ (.tail _ hm8))))))))))), ?_⟩
      intro I oI C oC D m2 hh2 tkk E' hC hx hx2 F N off ne Q' hQ'
      clear Fb Nb
      k_steps
      unfold Halt
      (with_reducible rename Fr _ _ _ _ => Fc)
      (with_reducible rename News _ _ _ _ => Nc)
      refine very_use Fc (KX.keeps Fc.keep) (T.keeps Fc.keep) Nc (xv8.mono Fc.keep) rfl rfl (Nat.le_of_ble_eq_true rfl) (Nat.le_of_ble_eq_true rfl) ?_
      intro h'' tk'' F'' N''
      clear Fc Nc
      k_steps
      exact hQ' _ _ F'' N''
    case zD2 =>
      intro D6 h6' tk6 F6 N6
      clear Fb Nb
      (try dsimp only)
      k_steps
      unfold Halt
      (with_reducible rename Fr _ _ _ _ => Fc)
      (with_reducible rename News _ _ _ _ => Nc)
      dsimp only at Nc
      refine ne_nil7 (n1 := 0) (n2 := 0) Nc (.tail _ (.head _)) (.head _) (by ke_room) ?_
      (try dsimp only)
      k_steps
      unfold Halt
      (with_reducible rename Fr _ _ _ _ => Fd)
      (with_reducible rename News _ _ _ _ => Nd)
      refine joinQ7 Fd Nd ?zj1 ?zj2
      case zj1 =>
        intro Qj hQj
        have hj : NoJ := trivial
        rcases six7 h0 h6 with rfl | rfl | rfl | rfl | rfl | rfl
        · k_steps
          (with_reducible rename Fr _ _ _ _ => Fe)
          (with_reducible rename News _ _ _ _ => Ne)
          exact hQj _ _ Fe (fun p hp => Ne _ (.tail _ hp))
        · k_steps
          (with_reducible rename Fr _ _ _ _ => Fe)
          (with_reducible rename News _ _ _ _ => Ne)
          exact hQj _ _ Fe (fun p hp => Ne _ (.tail _ hp))
        · k_steps
          unfold Halt
          (with_reducible rename Fr _ _ _ _ => Fe)
          (with_reducible rename News _ _ _ _ => Ne)
          refine args7 (KX.keeps Fe.keep) (Fe.keep _ _ he0) (Fe.keep _ _ hd0) ?_
          (try dsimp only)
          k_steps
          unfold Halt
          refine item_last7 (xs := [a, b]) (v := .none) (Fe.keep _ _ ht0) (Nat.le_of_ble_eq_true rfl) ?_
          (try dsimp only)
          k_steps
          (with_reducible rename Fr _ _ _ _ => Ff)
          (with_reducible rename News _ _ _ _ => Nf)
          exact hQj _ _ Ff (fun p hp => Nf _ (.tail _ hp))
        · k_steps
          unfold Halt
          (with_reducible rename Fr _ _ _ _ => Fe)
          (with_reducible rename News _ _ _ _ => Ne)
          refine args7 (KX.keeps Fe.keep) (Fe.keep _ _ he0) (Fe.keep _ _ hd0) ?_
          (try dsimp only)
          k_steps
          unfold Halt
          refine item_last7 (xs := [a, b, c]) (v := .none) (Fe.keep _ _ ht0) (Nat.le_of_ble_eq_true rfl) ?_
          (try dsimp only)
          k_steps
          (with_reducible rename Fr _ _ _ _ => Ff)
          (with_reducible rename News _ _ _ _ => Nf)
          exact hQj _ _ Ff (fun p hp => Nf _ (.tail _ hp))
        · k_steps
          (with_reducible rename Fr _ _ _ _ => Fe)
          (with_reducible rename News _ _ _ _ => Ne)
          exact hQj _ _ Fe (fun p hp => Ne _ (.tail _ hp))
        · k_steps
          (with_reducible rename Fr _ _ _ _ => Fe)
          (with_reducible rename News _ _ _ _ => Ne)
          exact hQj _ _ Fe (fun p hp => Ne _ (.tail _ hp))
      case zj2 =>
        intro h9 tk9 F9 N9
        clear Fd Nd
        (try dsimp only)
        k_steps
        unfold Halt
        (with_reducible rename Fr _ _ _ _ => Fg)
        (with_reducible rename News _ _ _ _ => Ng)
        refine made_use h0 h6 Fg (KX.keeps Fg.keep) (T.keeps Fg.keep) Ng (xa.mono Fg.keep) (xb.mono Fg.keep) (xc.mono Fg.keep) rfl rfl (Nat.le_of_ble_eq_true rfl) (Nat.le_of_ble_eq_true rfl) ?_
        intro ha tka ea dda ta oda ua ga Fa2 Na2 na1 na2 na3 hma hfa
        clear Fg Ng
        (try dsimp only)
        k_steps
        unfold Halt
        (with_reducible rename Fr _ _ _ _ => Fg)
        (with_reducible rename News _ _ _ _ => Ng)
        refine str_7 Fg (KX.keeps Fg.keep) (T.keeps Fg.keep) Ng (Ng _ (.head _)).1 (Ng _ (.tail _ (.head _))).1 (cls_ok7 w _).1 (cls_ok7 w _).2 hma rfl (Nat.le_of_ble_eq_true rfl) (Nat.le_of_ble_eq_true rfl) ?_
        intro hb ub tkb Fb1 Nb1
        clear Fg Ng
        (try dsimp only)
        k_steps
        unfold Halt
        (with_reducible rename Fr _ _ _ _ => Fg)
        (with_reducible rename News _ _ _ _ => Ng)
        refine words_use h0 h6 Fg (KX.keeps Fg.keep) (T.keeps Fg.keep) Ng (xa.mono Fg.keep) (xb.mono Fg.keep) (xc.mono Fg.keep) rfl rfl (Nat.le_of_ble_eq_true rfl) (Nat.le_of_ble_eq_true rfl) ?_
        intro hc tkc uc Fc1 Nc1
        clear Fg Ng
        (try dsimp only)
        k_steps
        unfold Halt
        refine ne_str7 ?_
        (try dsimp only)
        k_steps
        unfold Halt
        (with_reducible rename Fr _ _ _ _ => Fg)
        (with_reducible rename News _ _ _ _ => Ng)
        refine getm7 (KX.keeps Fg.keep) (Fg.keep _ _ he0) (Fg.keep _ _ hd0) (cls_ok7 w _).1 (cls_ok7 w _).2 hm0 ?_
        (try dsimp only)
        k_steps
        unfold Halt
        (with_reducible rename Fr _ _ _ _ => Fg)
        (with_reducible rename News _ _ _ _ => Ng)
        refine str_7 Fg (KX.keeps Fg.keep) (T.keeps Fg.keep) Ng (Fg.keep _ _ he0) (Fg.keep _ _ hd0) (cls_ok7 w _).1 (cls_ok7 w _).2 hm0 rfl (Nat.le_of_ble_eq_true rfl) (Nat.le_of_ble_eq_true rfl) ?_
        intro hd ud tkd Fd1 Nd1
        clear Fg Ng
        (try dsimp only)
        k_steps
        unfold Halt
        (with_reducible rename Fr _ _ _ _ => Fg)
        (with_reducible rename News _ _ _ _ => Ng)
        refine repr_7 Fg (KX.keeps Fg.keep) (T.keeps Fg.keep) Ng (Fg.keep _ _ he0) (Fg.keep _ _ hd0) (cls_ok7 w _).1 (cls_ok7 w _).2 hm0 hw rfl rfl (Nat.le_of_ble_eq_true rfl) (Nat.le_of_ble_eq_true rfl) ?_
        intro he ue tke Fe1 Ne1
        clear Fg Ng
        (try dsimp only)
        k_steps
        unfold Halt
        (with_reducible rename Fr _ _ _ _ => Fg)
        (with_reducible rename News _ _ _ _ => Ng)
        refine mul3_7 Fg Ng (.head _) ?_
        intro Dm hm9 Fm Nm
        clear Fg Ng
        (try dsimp only)
        k_steps
        unfold Halt
        (with_reducible rename Fr _ _ _ _ => Fg)
        (with_reducible rename News _ _ _ _ => Ng)
        refine eq3_7 Ng (.tail _ (.tail _ (.head _))) (.head _) (by ke_room) ?_
        (try dsimp only)
        k_steps
        (try exact hQ _ _ Fg.keep)
)
end
section
open PySem PySem.W PySem.Calls PyProof.Rows PySem.SeqAt
set_option Elab.async false
set_option maxRecDepth 100000
set_option maxHeartbeats 4000000
set_option linter.unusedVariables false
/-- a list of few whole numbers -/
def LstOk (o : Obj) : Prop := ∃ (vs : List PySem.Value) (ns : List Int) (n : Nat), o = listOf vs.toArray n ∧ IntsAre vs ns ∧ Few ns
/-- one of the five names -/
def Five (l0 l1 l2 tp : Addr) (v : PySem.Value) : Prop := v = .ref l0 ∨ v = .ref l1 ∨ v = .ref l2 ∨ v = .ref tp ∨ ∃ t, v = .str (Str.ofString "it's") t
/-- an error of the ledger -/
def ErL (led : List (Addr × Obj)) (k : Nat) (a b c : PySem.Value) (msg : PySem.Str) (e : Addr) : Prop := ∃ d t od u, (e, excObj (cls7 k) (some d) t) ∈ led ∧ (d, od) ∈ led ∧ (t, tupObj (due7 k a b c)) ∈ led ∧ lookIn "message" od = some (some (.str msg u)) ∧ Fields od (flds7 k a b c)
/-- a row of the ledger -/
def Row7 (led : List (Addr × Obj)) (l0 l1 l2 tp : Addr) (r : Addr) : Prop := ∃ (e : Addr) (k : Int) (kt : Tok) (a b c : PySem.Value) (words : PySem.Str) (ut : Tok) (n : Nat), (r, listOf #[.ref e, .int k kt, a, b, c, .str words ut] n) ∈ led ∧ 0 ≤ k ∧ k < 6 ∧ Five l0 l1 l2 tp a ∧ Five l0 l1 l2 tp b ∧ Five l0 l1 l2 tp c ∧ words.length ≤ 1000000 ∧ ErL led k.toNat a b c words e
def Rows7 (led : List (Addr × Obj)) (l0 l1 l2 tp : Addr) (rows : List PySem.Value) : Prop := ∀ v ∈ rows, ∃ r, v = .ref r ∧ Row7 led l0 l1 l2 tp r
section
variable {led led' : List (Addr × Obj)} {l0 l1 l2 tp r e : Addr} {k : Nat} {a b c v : PySem.Value} {msg : PySem.Str} {rows : List PySem.Value}
theorem ErL.sub (x : ErL led k a b c msg e) (s : ∀ p ∈ led, p ∈ led') : ErL led' k a b c msg e := by
  obtain ⟨d, t, od, u, h1, h2, h3, h4⟩ := x
  exact ⟨d, t, od, u, s _ h1, s _ h2, s _ h3, h4⟩
theorem Row7.sub (x : Row7 led l0 l1 l2 tp r) (s : ∀ p ∈ led, p ∈ led') : Row7 led' l0 l1 l2 tp r := by
  obtain ⟨e, k, kt, a, b, c, words, ut, n, h1, h2, h3, h4, h5, h6, h7, h8⟩ := x
  exact ⟨e, k, kt, a, b, c, words, ut, n, s _ h1, h2, h3, h4, h5, h6, h7, h8.sub s⟩
theorem Rows7.sub (x : Rows7 led l0 l1 l2 tp rows) (s : ∀ p ∈ led, p ∈ led') : Rows7 led' l0 l1 l2 tp rows := fun v hv => let ⟨r, h1, h2⟩ := x v hv; ⟨r, h1, h2.sub s⟩
theorem Rows7.snoc (x : Rows7 led l0 l1 l2 tp rows) (y : Row7 led l0 l1 l2 tp r) : Rows7 led l0 l1 l2 tp (rows ++ [.ref r]) := fun v hv => by
  rcases List.mem_append.mp hv with hv | hv
  · exact x v hv
  · exact ⟨r, List.mem_singleton.mp hv, y⟩
variable {w : World} {A : Around} {E : PySem.Value → Shared → Prop} {s : Shared} {h₀ h : Heap} {L : Addr} {m : PySem.Str → Option PySem.Value} {news : List (Addr × Obj)} {Q : PySem.Value → Shared → Prop} {o0 o1 o2 : Obj} {value slice : PySem.Expr} {prog : Program}
theorem ErL.at (x : ErL led k a b c msg e) (N : News h₀ L h led) : Er7 h k a b c msg e := by
  obtain ⟨d, t, od, u, h1, h2, h3, h4⟩ := x
  exact ⟨d, t, od, u, (N _ h1).1, (N _ h2).1, (N _ h3).1, h4⟩
theorem ne_one7 (X : (KP7 w).In h₀) (N : News h₀ L h news) : ∀ p ∈ news, p.1 ≠ 1 := fun p hp e => by
  have h1 : ((KP7 w).lookup 1).isSome = true := by kernel_rfl
  obtain ⟨o, ho⟩ := Option.isSome_iff_exists.mp h1
  have := X 1 o ho
  rw [← e, (N p hp).2.2] at this
  cases this
/-- each of the five is a name at each heap -/
theorem five_at (X : (KP7 w).In h₀) (N : News h₀ L h news) (m0 : (l0, o0) ∈ news) (m1 : (l1, o1) ∈ news) (m2 : (l2, o2) ∈ news) (mt : (tp, tupObj [.ref l0]) ∈ news) (k0 : LstOk o0) (k1 : LstOk o1) (k2 : LstOk o2) (f : Five l0 l1 l2 tp v) : ∃ d, V7 h v d := by
  have one : ∀ {l : Addr} {o : Obj}, (l, o) ∈ news → LstOk o → ∃ d, V7 h (.ref l) d := fun {l o} hm ⟨vs, ns, n, e, hi, hf⟩ => ⟨_, .list (vs := vs) (n := n) (by rw [← e]; exact (N _ hm).1) (ne_one7 X N _ hm) hi hf⟩
  rcases f with rfl | rfl | rfl | rfl | ⟨t, rfl⟩
  · exact one m0 k0
  · exact one m1 k1
  · exact one m2 k2
  · obtain ⟨vs, ns, n, e, hi, hf⟩ := k0
    exact ⟨_, .tup (vs := vs) (n := n) (N _ mt).1 (by rw [← e]; exact (N _ m0).1) (ne_one7 X N _ m0) hi hf⟩
  · exact ⟨_, .str t⟩
/-- an item of a list, of which something is known -/
theorem item_tmpP {l : Addr} {items : List PySem.Value} {k : Int} {u : Tok} {P : PySem.Value → Prop} (hl : s.heap.IsList l items.toArray) (h0 : 0 ≤ k) (hk : k.toNat < items.length) (hz : items.length ≤ 1000) (hp : ∀ v ∈ items, P v)
    (h : ∀ v, P v → Q v s) (hs : subscripted slice false (.ref l) (.int k u) = operate [.ref l, .int k u] (getItem (.ref l) (.int k u)) := by with_unfolding_all rfl) :
    wpAny (model prog w) A (subscriptTail value slice (.ref l) (.int k u)) Q E s := by
  have hx := List.getElem?_eq_getElem hk
  have hT := hl.typeIs
  unfold subscriptTail
  refine wpAny_bind ?_
  rw [getitemInPython_of_ne hT.not_modules]
  refine wpAny_bind (wpAny_specialOf hT slot_list_getitem.lookup ?_)
  have fin : wpAny (model prog w) A (subscripted slice false (.ref l) (.int k u)) (fun r s₃ => wpAny (model prog w) A (letTemporaryGo value (.ref l) r >>= fun _ => pure r) Q E s₃) E s := by
    rw [hs]
    refine wpAny_operating (wpAny_getItem_list hl h0 (by omega) (x := items[k.toNat]) (by simpa using hx) ?_)
    exact wpAny_bind (wpAny_letTemporaryGo (wpAny_pure (h _ (hp _ (List.getElem_mem hk)))))
  first
    | exact wpAny_pure (wpAny_bind fin)
    | exact wpAny_bind (wpAny_pure (wpAny_bind fin))
    | exact wpAny_bind fin
/-- names[i] -/
theorem item_five {l : Addr} {n : Nat} {k : Int} {u ts : Tok} (N : News h₀ L s.heap news) (hl : (l, listOf #[.ref l0, .ref l1, .ref l2, .ref tp, .str (Str.ofString "it's") ts] n) ∈ news) (hk0 : 0 ≤ k) (hk5 : k < 5)
    (h : ∀ v, Five l0 l1 l2 tp v → Q v s) (hs : subscripted slice false (.ref l) (.int k u) = operate [.ref l, .int k u] (getItem (.ref l) (.int k u)) := by with_unfolding_all rfl) :
    wpAny (model prog w) A (subscriptTail value slice (.ref l) (.int k u)) Q E s :=
  item_tmpP (P := Five l0 l1 l2 tp) (items := [.ref l0, .ref l1, .ref l2, .ref tp, .str (Str.ofString "it's") ts]) (News.isList N hl) hk0 (by show k.toNat < 5; omega) (Nat.le_of_ble_eq_true rfl) (fun v hv => by
    simp only [List.mem_cons, List.not_mem_nil, or_false] at hv
    rcases hv with rfl | rfl | rfl | rfl | rfl
    · exact .inl rfl
    · exact .inr (.inl rfl)
    · exact .inr (.inr (.inl rfl))
    · exact .inr (.inr (.inr (.inl rfl)))
    · exact .inr (.inr (.inr (.inr ⟨_, rfl⟩)))) h hs
def pick3 (k : Int) (l0 l1 l2 : Addr) : Addr := if k = 0 then l0 else if k = 1 then l1 else l2
def pickO (k : Int) (o0 o1 o2 : Obj) : Obj := if k = 0 then o0 else if k = 1 then o1 else o2
theorem pick3_cases (k : Int) (l0 l1 l2 : Addr) (o0 o1 o2 : Obj) : (pick3 k l0 l1 l2 = l0 ∧ pickO k o0 o1 o2 = o0) ∨ (pick3 k l0 l1 l2 = l1 ∧ pickO k o0 o1 o2 = o1) ∨ (pick3 k l0 l1 l2 = l2 ∧ pickO k o0 o1 o2 = o2) := by
  unfold pick3 pickO
  split
  · exact .inl ⟨rfl, rfl⟩
  · split
    · exact .inr (.inl ⟨rfl, rfl⟩)
    · exact .inr (.inr ⟨rfl, rfl⟩)
/-- names[i] among the three lists -/
theorem item_three {l : Addr} {n : Nat} {k : Int} {u : Tok} {x y : PySem.Value} (N : News h₀ L s.heap news) (hl : (l, listOf #[.ref l0, .ref l1, .ref l2, x, y] n) ∈ news) (hk0 : 0 ≤ k) (hk3 : k < 3)
    (h : Q (.ref (pick3 k l0 l1 l2)) s) (hs : subscripted slice false (.ref l) (.int k u) = operate [.ref l, .int k u] (getItem (.ref l) (.int k u)) := by with_unfolding_all rfl) :
    wpAny (model prog w) A (subscriptTail value slice (.ref l) (.int k u)) Q E s := by
  have hx : ([.ref l0, .ref l1, .ref l2, x, y] : List PySem.Value)[k.toNat]? = some (.ref (pick3 k l0 l1 l2)) := by
    have : k = 0 ∨ k = 1 ∨ k = 2 := by omega
    rcases this with rfl | rfl | rfl <;> rfl
  exact item_tmpT (items := [.ref l0, .ref l1, .ref l2, x, y]) (P := fun d => d = pick3 k l0 l1 l2) (News.isList N hl) hk0 (Nat.le_of_ble_eq_true rfl) ⟨_, hx, rfl⟩ (fun td e => by rw [e]; exact h) hs
end
end
section
open PySem PySem.W PySem.Calls PyProof.Rows PySem.SeqAt
set_option Elab.async false
set_option maxRecDepth 100000
set_option maxHeartbeats 4000000
set_option linter.unusedVariables false
section
variable {l0 l1 l2 tp nm kp r e : Addr} {rows : List PySem.Value} {w : World} {A : Around} {E : PySem.Value → Shared → Prop} {s : Shared} {h₀ h : Heap} {L : Addr} {m : PySem.Str → Option PySem.Value} {news led rest own : List (Addr × Obj)} {Q : PySem.Value → Shared → Prop} {o0 o1 o2 o : Obj} {prog : Program}
theorem app_led7 {D : Addr} {us : List PySem.Value} {n : Nat} {v : PySem.Value} {r : List (Addr × Obj)} (F : Fr h₀ L s.heap m) (N : News h₀ L s.heap ((D, listOf us.toArray n) :: r)) (hne : ∀ p ∈ r, p.1 ≠ D) (hl : us.length ≤ 1000)
    (h : ∀ h', Fr h₀ L h' m → News h₀ L h' ((D, listOf (us ++ [v]).toArray (n + 1)) :: r) → Q .none { s with heap := h' }) : wpAny (model prog w) A (call (.builtin "list.append") [.ref D, v]) Q E s :=
  append_K F N (.head hne) (fun h' F' N' => h h' F' (by rw [← List.push_toArray]; exact N')) (by rw [sizeLine_eq, List.size_toArray]; omega)
/-- one of three entries is put at the head, changed, and put back -/
theorem three_at {k : Int} (N : News h₀ L h ((l0, o0) :: (l1, o1) :: (l2, o2) :: led)) (hne : ∀ p ∈ led, p.1 ≠ l0 ∧ p.1 ≠ l1 ∧ p.1 ≠ l2) (d01 : l0 ≠ l1) (d02 : l0 ≠ l2) (d12 : l1 ≠ l2) (k0 : LstOk o0) (k1 : LstOk o1) (k2 : LstOk o2) :
    ∃ r, News h₀ L h ((pick3 k l0 l1 l2, pickO k o0 o1 o2) :: r) ∧ (∀ p ∈ r, p.1 ≠ pick3 k l0 l1 l2) ∧ LstOk (pickO k o0 o1 o2) ∧ (∀ h' o', LstOk o' → News h₀ L h' ((pick3 k l0 l1 l2, o') :: r) → ∃ a0 a1 a2, LstOk a0 ∧ LstOk a1 ∧ LstOk a2 ∧ News h₀ L h' ((l0, a0) :: (l1, a1) :: (l2, a2) :: led)) := by
  rcases pick3_cases k l0 l1 l2 o0 o1 o2 with ⟨e1, e2⟩ | ⟨e1, e2⟩ | ⟨e1, e2⟩ <;> rw [e1, e2]
  · refine ⟨(l1, o1) :: (l2, o2) :: led, N, fun p hp => ?_, k0, fun h' o' ok N' => ⟨o', o1, o2, ok, k1, k2, N'⟩⟩
    rcases List.mem_cons.mp hp with rfl | hp
    · exact Ne.symm d01
    rcases List.mem_cons.mp hp with rfl | hp
    · exact Ne.symm d02
    · exact (hne p hp).1
  · refine ⟨(l0, o0) :: (l2, o2) :: led, fun p hp => N p ?_, fun p hp => ?_, k1, fun h' o' ok N' => ⟨o0, o', o2, k0, ok, k2, fun p hp => N' p ?_⟩⟩
    · simp only [List.mem_cons] at hp ⊢
      rcases hp with h | h | h | h <;> simp [h]
    · rcases List.mem_cons.mp hp with rfl | hp
      · exact d01
      rcases List.mem_cons.mp hp with rfl | hp
      · exact Ne.symm d12
      · exact (hne p hp).2.1
    · simp only [List.mem_cons] at hp ⊢
      rcases hp with h | h | h | h <;> simp [h]
  · refine ⟨(l0, o0) :: (l1, o1) :: led, fun p hp => N p ?_, fun p hp => ?_, k2, fun h' o' ok N' => ⟨o0, o1, o', k0, k1, ok, fun p hp => N' p ?_⟩⟩
    · simp only [List.mem_cons] at hp ⊢
      rcases hp with h | h | h | h <;> simp [h]
    · rcases List.mem_cons.mp hp with rfl | hp
      · exact d02
      rcases List.mem_cons.mp hp with rfl | hp
      · exact d12
      · exact (hne p hp).2.2
    · simp only [List.mem_cons] at hp ⊢
      rcases hp with h | h | h | h <;> simp [h]
/-- a number is put onto one of the three lists -/
theorem app_pick {k x : Int} {u : Tok} {vs : List PySem.Value} {n : Nat} (F : Fr h₀ L s.heap m) (N : News h₀ L s.heap ((l0, o0) :: (l1, o1) :: (l2, o2) :: led)) (hne : ∀ p ∈ led, p.1 ≠ l0 ∧ p.1 ≠ l1 ∧ p.1 ≠ l2) (d01 : l0 ≠ l1) (d02 : l0 ≠ l2) (d12 : l1 ≠ l2) (k0 : LstOk o0) (k1 : LstOk o1) (k2 : LstOk o2)
    (hp : News h₀ L s.heap [(pick3 k l0 l1 l2, listOf vs.toArray n)]) (hl : vs.length < 5) (hx : x.natAbs < 1000)
    (q : ∀ h' a0 a1 a2, Fr h₀ L h' m → LstOk a0 → LstOk a1 → LstOk a2 → News h₀ L h' ((l0, a0) :: (l1, a1) :: (l2, a2) :: led) → Q .none { s with heap := h' }) : wpAny (model prog w) A (call (.builtin "list.append") [.ref (pick3 k l0 l1 l2), .int x u]) Q E s := by
  obtain ⟨r, N1, hr, ok, back⟩ := three_at (k := k) N hne d01 d02 d12 k0 k1 k2
  obtain ⟨us, ns, n', e, hi, hf⟩ := ok
  rw [e] at N1
  have hE : listOf vs.toArray n = listOf us.toArray n' := by
    have a := (hp _ (.head _)).1
    have b := (N1 _ (.head _)).1
    rw [a] at b
    exact Option.some.inj b
  have hvu : vs = us := by
    have := congrArg Obj.data hE
    simp only [Data.seq.injEq] at this
    exact (by simpa using congrArg Array.toList this.1)
  have hlen : us.length = ns.length := by
    clear hf hvu hE e N1 back
    induction hi with
    | nil => rfl
    | cons _ _ _ ih => simp [ih]
  refine app_led7 F N1 hr (by have := hf.1; omega) fun h' F' N' => ?_
  have hF : Few (ns ++ [x]) := by
    refine ⟨by rw [List.length_append, List.length_singleton]; rw [hvu] at hl; omega, fun y hy => ?_⟩
    rcases List.mem_append.mp hy with hy | hy
    · exact hf.2 y hy
    · rw [List.mem_singleton.mp hy]; exact hx
  obtain ⟨a0, a1, a2, b0, b1, b2, b3⟩ := back h' _ ⟨us ++ [.int x u], ns ++ [x], n' + 1, rfl, IntsAre.append hi (.cons x u .nil), hF⟩ N'
  exact q h' a0 a1 a2 F' b0 b1 b2 b3
theorem clear_led7 {D : Addr} {us : List PySem.Value} {n : Nat} {r : List (Addr × Obj)} (F : Fr h₀ L s.heap m) (N : News h₀ L s.heap ((D, listOf us.toArray n) :: r)) (hne : ∀ p ∈ r, p.1 ≠ D) (hl : us.length ≤ 1000)
    (h : ∀ h' n', Fr h₀ L h' m → News h₀ L h' ((D, listOf #[] n') :: r) → Q .none { s with heap := h' }) : wpAny (model prog w) A (call (.builtin "list.clear") [.ref D]) Q E s := by
  by_cases he : us = []
  · subst he
    have z := N _ (.head _)
    have hs : ([] : List PySem.Value).toArray.size ≤ sizeLine := by rw [sizeLine_eq]; decide
    exact call_meets PySem.F.slot_list_clear ⟨_, z.1, rfl⟩ PySem.F.entry_list_clear (PySem.F.args_list_clear_1 _) (PySem.AutoSeq1.list_clear_list_0 D _ n hs) ⟨z.1, h _ n (F.change (Heap.SameBut.update ..) z.2.1 z.2.2) (kl_turn0 (pre := []) (fun _ => #[]) N (fun p hp => nomatch hp) hne rfl rfl)⟩
  · exact kl_clear F N (.head hne) (by simpa using he) (by rw [sizeLine_eq]; simp; omega) fun h' F' N' => h h' _ F' N'
/-- one of the three lists is emptied -/
theorem clear_pick {k : Int} (F : Fr h₀ L s.heap m) (N : News h₀ L s.heap ((l0, o0) :: (l1, o1) :: (l2, o2) :: led)) (hne : ∀ p ∈ led, p.1 ≠ l0 ∧ p.1 ≠ l1 ∧ p.1 ≠ l2) (d01 : l0 ≠ l1) (d02 : l0 ≠ l2) (d12 : l1 ≠ l2) (k0 : LstOk o0) (k1 : LstOk o1) (k2 : LstOk o2)
    (q : ∀ h' a0 a1 a2, Fr h₀ L h' m → LstOk a0 → LstOk a1 → LstOk a2 → News h₀ L h' ((l0, a0) :: (l1, a1) :: (l2, a2) :: led) → Q .none { s with heap := h' }) : wpAny (model prog w) A (call (.builtin "list.clear") [.ref (pick3 k l0 l1 l2)]) Q E s := by
  obtain ⟨r, N1, hr, ok, back⟩ := three_at (k := k) N hne d01 d02 d12 k0 k1 k2
  obtain ⟨us, ns, n', e, hi, hf⟩ := ok
  rw [e] at N1
  have hlen : us.length = ns.length := by
    clear hf e N1 back
    induction hi with
    | nil => rfl
    | cons _ _ _ ih => simp [ih]
  refine clear_led7 F N1 hr (by have := hf.1; omega) fun h' n2 F' N' => ?_
  obtain ⟨a0, a1, a2, b0, b1, b2, b3⟩ := back h' _ ⟨[], [], n2, rfl, .nil, Nat.zero_le _, fun y hy => nomatch hy⟩ N'
  exact q h' a0 a1 a2 F' b0 b1 b2 b3
/-- what the law's ledger bears -/
structure S7 (l0 l1 l2 tp nm kp : Addr) (rest : List (Addr × Obj)) (o0 o1 o2 : Obj) (rows : List PySem.Value) : Prop where
  k0 : LstOk o0
  k1 : LstOk o1
  k2 : LstOk o2
  mt : (tp, tupObj [.ref l0]) ∈ rest
  mn : ∃ u, (nm, listOf #[.ref l0, .ref l1, .ref l2, .ref tp, .str (Str.ofString "it's") u] 0) ∈ rest
  rows : Rows7 rest l0 l1 l2 tp rows
  d : l0 ≠ l1 ∧ l0 ≠ l2 ∧ l1 ≠ l2 ∧ l0 ≠ kp ∧ l1 ≠ kp ∧ l2 ≠ kp
  off : ∀ p ∈ rest, p.1 ≠ l0 ∧ p.1 ≠ l1 ∧ p.1 ≠ l2 ∧ p.1 ≠ kp
def stored7 : List PySem.Str := [Str.ofString "kind", Str.ofString "a", Str.ofString "b", Str.ofString "c", Str.ofString "x", Str.ofString "rest", Str.ofString "step", Str.ofString "number"]
def J7 (l0 l1 l2 tp nm kp : Addr) (X : List (Addr × Obj)) (b : Nat) (m0 : PySem.Str → Option PySem.Value) (i : Nat) (m : PySem.Str → Option PySem.Value) (nx : List (Addr × Obj)) : Prop :=
  ∃ o0 o1 o2 rows kn rest, nx = (l0, o0) :: (l1, o1) :: (l2, o2) :: (kp, listOf rows.toArray kn) :: rest ∧ S7 l0 l1 l2 tp nm kp rest o0 o1 o2 rows ∧ rows.length ≤ b + i ∧ (∀ p ∈ X, p ∈ rest) ∧ ∀ z, stored7.contains z = false → m z = m0 z
/-- the end of a turn -/
def End7 (h₀ : Heap) (L l0 l1 l2 tp kp : Addr) (m0 : PySem.Str → Option PySem.Value) (rest own : List (Addr × Obj)) (rows : List PySem.Value) (s : Shared) (Q : Flow → Shared → Prop) : Prop :=
  ∀ (h' : Heap) (tk' : Nat) (m' : PySem.Str → Option PySem.Value) (a0 a1 a2 : Obj) (rows' : List PySem.Value) (kn' : Nat) (new : List (Addr × Obj)), Fr h₀ L h' m' → (∀ z, stored7.contains z = false → m' z = m0 z) →
    News h₀ L h' ((l0, a0) :: (l1, a1) :: (l2, a2) :: (kp, listOf rows'.toArray kn') :: (new ++ (rest ++ own))) → LstOk a0 → LstOk a1 → LstOk a2 → Rows7 (new ++ rest) l0 l1 l2 tp rows' →
    (∀ p ∈ new, p.1 ≠ l0 ∧ p.1 ≠ l1 ∧ p.1 ≠ l2 ∧ p.1 ≠ kp ∧ ∀ q ∈ rest ++ own, q.1 ≠ p.1) → rows'.length ≤ rows.length + 1 → Q .next { s with heap := h', toks := tk' }
theorem end7 {P : (PySem.Str → Option PySem.Value) → List (Addr × Obj) → Prop} {X : List (Addr × Obj)} {b i : Nat} {m0 : PySem.Str → Option PySem.Value} {ok : Obj} {Q : Flow → Shared → Prop} (hP : ∀ m' nx, J7 l0 l1 l2 tp nm kp X b m0 (i + 1) m' nx → P m' nx) (hS : S7 l0 l1 l2 tp nm kp rest o0 o1 o2 rows) (hl : rows.length ≤ b + i) (hX : ∀ p ∈ X, p ∈ rest)
    (hoff : OwnOff own (((l0, o0) :: (l1, o1) :: (l2, o2) :: (kp, ok) :: rest).map (·.1))) : End7 h₀ L l0 l1 l2 tp kp m0 rest own rows s (InvPostG h₀ L P own s Q) := by
  intro h' tk' m' a0 a1 a2 rows' kn' new F hm N b0 b1 b2 hr hn hl'
  have hsub : ∀ p ∈ rest, p ∈ new ++ rest := fun p hp => List.mem_append_right _ hp
  refine InvEndG.intro (nx := (l0, a0) :: (l1, a1) :: (l2, a2) :: (kp, listOf rows'.toArray kn') :: (new ++ rest)) F N (hP _ _ ⟨a0, a1, a2, rows', kn', new ++ rest, rfl, ⟨b0, b1, b2, hsub _ hS.mt, hS.mn.imp fun _ h => hsub _ h, hr, hS.d, fun p hp => ?_⟩, by omega, fun p hp => hsub _ (hX p hp), hm⟩) ?_ ?_ ?_
  · rcases List.mem_append.mp hp with hp | hp
    · have := hn p hp; exact ⟨this.1, this.2.1, this.2.2.1, this.2.2.2.1⟩
    · exact hS.off p hp
  · intro p hp c hc
    simp only [List.map_cons, List.map_append, List.mem_cons, List.mem_append, List.mem_map] at hc
    rcases hc with rfl | rfl | rfl | rfl | ⟨q, hq, rfl⟩ | ⟨q, hq, rfl⟩
    · exact hoff p hp _ (.head _)
    · exact hoff p hp _ (.tail _ (.head _))
    · exact hoff p hp _ (.tail _ (.tail _ (.head _)))
    · exact hoff p hp _ (.tail _ (.tail _ (.tail _ (.head _))))
    · exact (hn q hq).2.2.2.2 p (List.mem_append_right _ hp)
    · exact hoff p hp _ (.tail _ (.tail _ (.tail _ (.tail _ (List.mem_map.mpr ⟨q, hq, rfl⟩)))))
  · intro p hp
    simp only [List.mem_cons, List.mem_append] at hp ⊢
    rcases hp with h | h | h | h | h | h <;> simp [h]
  · intro p hp
    simp only [List.mem_cons, List.mem_append] at hp ⊢
    simp [hp]
theorem map7 {x : PySem.Str} {m₀ m₁ : PySem.Str → Option PySem.Value} {o : Option PySem.Value} (hm : ∀ z, stored7.contains z = false → m₁ z = m₀ z) : (fun y => if y = x then o else m₁ y) = fun y => if y = x then o else if stored7.contains y then m₁ y else m₀ y := by
  funext y
  by_cases h1 : y = x
  · rw [if_pos h1, if_pos h1]
  · rw [if_neg h1, if_neg h1]
    cases h2 : stored7.contains y with
    | true => rw [if_pos rfl]
    | false => rw [if_neg Bool.false_ne_true, hm y h2]
theorem map70 {m₀ m₁ : PySem.Str → Option PySem.Value} (hm : ∀ z, stored7.contains z = false → m₁ z = m₀ z) : m₁ = fun y => if stored7.contains y then m₁ y else m₀ y := by
  funext y
  cases h2 : stored7.contains y with
  | true => rw [if_pos rfl]
  | false => rw [if_neg Bool.false_ne_true, hm y h2]
end
section
variable {l0 l1 l2 tp nm kp : Addr} {prog : Program} {w : World} {A : Around} {E : PySem.Value → Shared → Prop} {s : Shared} {env : Env} {h₀ : Heap} {x : PySem.Str} {body : List Stmt} {Q : Flow → Shared → Prop} {o0 o1 o2 : Obj} {rows0 : List PySem.Value} {kn0 : Nat} {rest0 : List (Addr × Obj)} {m₀ : PySem.Str → Option PySem.Value}
/-- the loop over the script's numbers -/
theorem loop7 {l : Addr} {vs : List PySem.Value} {ns : List Int} (b : Nat) (hh : A.handled = none) (hi : IntsAre vs ns) (hlen : ns.length ≤ 40) (hx : stored7.contains x = true)
    (F : Fr h₀ env.locals s.heap m₀) (N : News h₀ env.locals s.heap ((l0, o0) :: (l1, o1) :: (l2, o2) :: (kp, listOf rows0.toArray kn0) :: rest0)) (hS : S7 l0 l1 l2 tp nm kp rest0 o0 o1 o2 rows0) (hb : rows0.length ≤ b) (hl : (l, listOf vs.toArray 0) ∈ rest0)
    (turn : ∀ (n : Int) (t : Tok) (u : PySem.Str → Option PySem.Value) (h : Heap) (tk : Nat) (rest own : List (Addr × Obj)) (a0 a1 a2 : Obj) (rows : List PySem.Value) (kn : Nat), rows.length ≤ b + 40 → S7 l0 l1 l2 tp nm kp rest a0 a1 a2 rows → (∀ p ∈ rest ++ own, p.1 ≠ l0 ∧ p.1 ≠ l1 ∧ p.1 ≠ l2 ∧ p.1 ≠ kp) →
      Fr h₀ env.locals h (fun y => if y = x then some (.int n t) else if stored7.contains y then u y else m₀ y) → News h₀ env.locals h ((l0, a0) :: (l1, a1) :: (l2, a2) :: (kp, listOf rows.toArray kn) :: (rest ++ own)) →
      ∀ (Q' : Flow → Shared → Prop), End7 h₀ env.locals l0 l1 l2 tp kp m₀ rest own rows { s with heap := h, toks := tk } Q' → wpAny (model prog w) A (execs body env) Q' E { s with heap := h, toks := tk })
    (done : ∀ (m : PySem.Str → Option PySem.Value) (h : Heap) (tk : Nat) (rest : List (Addr × Obj)) (a0 a1 a2 : Obj) (rows : List PySem.Value) (kn : Nat), rows.length ≤ b + 40 → S7 l0 l1 l2 tp nm kp rest a0 a1 a2 rows →
      Fr h₀ env.locals h (fun y => if stored7.contains y then m y else m₀ y) → News h₀ env.locals h ((l0, a0) :: (l1, a1) :: (l2, a2) :: (kp, listOf rows.toArray kn) :: rest) → Q .next { s with heap := h, toks := tk }) :
    wpAny (model prog w) A (pyIter (.ref l)) (fun it s₂ => LoopAtV prog w A h₀ env x body Q E it s₂) E s := by
  have hvl : vs.length = ns.length := by
    clear hlen hl turn done
    induction hi with
    | nil => rfl
    | cons _ _ _ ih => simp [ih]
  refine kdl_iter (m₀ := m₀) (news := (l0, o0) :: (l1, o1) :: (l2, o2) :: (kp, listOf rows0.toArray kn0) :: rest0) (J7 l0 l1 l2 tp nm kp [(l, listOf vs.toArray 0)] b m₀) hh (.tail _ (.tail _ (.tail _ (.tail _ hl)))) F N ⟨o0, o1, o2, rows0, kn0, rest0, rfl, hS, hb, fun p hp => by rw [List.mem_singleton.mp hp]; exact hl, fun _ _ => rfl⟩ ?_ ?_
  · rintro i v m₁ news₁ h tk own hv hoff hl' ⟨a0, a1, a2, rows, kn, rest, rfl, hS, hr, hX, hm⟩ F1 N1
    obtain ⟨n, t, rfl, hin⟩ : ∃ n t, v = PySem.Value.int n t ∧ i < ns.length := by
      have hi' : i < vs.length := (List.getElem?_eq_some_iff.mp hv).1
      obtain ⟨t, hx⟩ := hi.get i (ns[i]'(hvl ▸ hi')) (List.getElem?_eq_getElem _)
      rw [hx] at hv
      exact ⟨_, t, (Option.some.inj hv).symm, hvl ▸ hi'⟩
    rw [map7 hm] at F1
    refine turn n t m₁ h tk rest own a0 a1 a2 rows kn (by omega) hS (fun p hp => ?_) F1 N1 _ (end7 (fun m' nx hj => ⟨?_, hj⟩) hS hr hX hoff)
    · rcases List.mem_append.mp hp with hp | hp
      · exact hS.off p hp
      · exact ⟨hoff p hp _ (.head _), hoff p hp _ (.tail _ (.head _)), hoff p hp _ (.tail _ (.tail _ (.head _))), hoff p hp _ (.tail _ (.tail _ (.tail _ (.head _))))⟩
    · obtain ⟨_, _, _, _, _, rest', rfl, _, _, hX', _⟩ := hj
      exact .tail _ (.tail _ (.tail _ (.tail _ (hX' _ (.head _)))))
  · rintro m₁ news₁ h tk ⟨a0, a1, a2, rows, kn, rest, rfl, hS, hr, hX, hm⟩ F1 N1
    rw [map70 hm] at F1
    exact done m₁ h tk rest a0 a1 a2 rows kn (by omega) hS F1 N1
/-- the loop over range(7) -/
theorem loopR7 {r : Addr} {t₀ u₀ v₀ : Tok} {n : Nat} {a₀ b₀ : Int} (X : List (Addr × Obj)) (hh : A.handled = none) (hr : IsRange s.heap r a₀ b₀ 1 t₀ u₀ v₀) (hsmall : Builtin.Range.small a₀ b₀ 1 = true) (hsz : Builtin.Range.rangeSize a₀ b₀ 1 = (n : Int)) (hx : stored7.contains x = true)
    (F : Fr h₀ env.locals s.heap m₀) (N : News h₀ env.locals s.heap ((l0, o0) :: (l1, o1) :: (l2, o2) :: (kp, listOf rows0.toArray kn0) :: rest0)) (hS : S7 l0 l1 l2 tp nm kp rest0 o0 o1 o2 rows0) (hX : ∀ p ∈ X, p ∈ rest0)
    (turn : ∀ (i : Nat) (t : Tok) (u : PySem.Str → Option PySem.Value) (h : Heap) (tk : Nat) (rest own : List (Addr × Obj)) (a0 a1 a2 : Obj) (rows : List PySem.Value) (kn : Nat), i < n → rows.length ≤ rows0.length + n → S7 l0 l1 l2 tp nm kp rest a0 a1 a2 rows → (∀ p ∈ rest ++ own, p.1 ≠ l0 ∧ p.1 ≠ l1 ∧ p.1 ≠ l2 ∧ p.1 ≠ kp) →
      Fr h₀ env.locals h (fun y => if y = x then some (.int (a₀ + (i : Int)) t) else if stored7.contains y then u y else m₀ y) → News h₀ env.locals h ((l0, a0) :: (l1, a1) :: (l2, a2) :: (kp, listOf rows.toArray kn) :: (rest ++ own)) →
      ∀ (Q' : Flow → Shared → Prop), End7 h₀ env.locals l0 l1 l2 tp kp m₀ rest own rows { s with heap := h, toks := tk } Q' → wpAny (model prog w) A (execs body env) Q' E { s with heap := h, toks := tk })
    (done : ∀ (m : PySem.Str → Option PySem.Value) (h : Heap) (tk : Nat) (rest : List (Addr × Obj)) (a0 a1 a2 : Obj) (rows : List PySem.Value) (kn : Nat), rows.length ≤ rows0.length + n → S7 l0 l1 l2 tp nm kp rest a0 a1 a2 rows → (∀ p ∈ X, p ∈ rest) →
      Fr h₀ env.locals h (fun y => if stored7.contains y then m y else m₀ y) → News h₀ env.locals h ((l0, a0) :: (l1, a1) :: (l2, a2) :: (kp, listOf rows.toArray kn) :: rest) → Q .next { s with heap := h, toks := tk }) :
    wpAny (model prog w) A (pyIter (.ref r)) (fun it s₂ => LoopAtV prog w A h₀ env x body Q E it s₂) E s := by
  refine wpAny_pyIter_range hr hsmall ?_
  have W : Walks prog w A s.heap.objs.size [s.heap.objs.size] [s.heap.objs.size] n (fun i v => i < n ∧ ∃ t, v = .int (a₀ + i * 1) t)
      (fun i h => IsRangeIter h s.heap.objs.size (a₀ + (i : Nat) * 1) ((n : Int) - (i : Nat)) 1) := (Walks.range hh _ a₀ 1 n).bound
  refine kdr_loop (J7 l0 l1 l2 tp nm kp X rows0.length m₀) W (fun _ h => h) (fun _ h => h) ?_ ?_ ?_ ?_ (by show IsRangeIter _ _ _ _ _; rw [hsz]; simpa using Heap.get?_push_size _ rfl) (F.push _) (fun p hp => ⟨Heap.get?_push_of_some _ (N p hp).1, (N p hp).2⟩) ⟨o0, o1, o2, rows0, kn0, rest0, rfl, hS, Nat.le_refl _, hX, fun _ _ => rfl⟩ ?_ ?_
  · intro i h hi b hb
    rw [List.mem_singleton.mp hb]
    exact ⟨_, hi⟩
  · intro hm
    exact absurd F.ns.lt ((List.mem_singleton.mp hm) ▸ Nat.lt_irrefl _)
  · intro b hb
    rw [List.mem_singleton.mp hb]
    exact next_is_new F
  · intro p hp hI
    exact absurd (Heap.lt_size (N p hp).1) ((List.mem_singleton.mp hI) ▸ Nat.lt_irrefl _)
  · rintro i v m₁ nx h tk own hi ⟨_, t, rfl⟩ hoff ⟨a0, a1, a2, rows, kn, rest, rfl, hS, hr, hX, hm⟩ F₁ N₁
    have e1 : a₀ + (i : Int) * 1 = a₀ + (i : Int) := by omega
    rw [e1, map7 hm] at F₁
    refine turn i t m₁ h tk rest own a0 a1 a2 rows kn hi (by omega) hS (fun p hp => ?_) F₁ N₁ _ (end7 (fun m' nx hj => hj) hS hr hX hoff)
    rcases List.mem_append.mp hp with hp | hp
    · exact hS.off p hp
    · exact ⟨hoff p hp _ (.head _), hoff p hp _ (.tail _ (.head _)), hoff p hp _ (.tail _ (.tail _ (.head _))), hoff p hp _ (.tail _ (.tail _ (.tail _ (.head _))))⟩
  · rintro m₁ nx h tk ⟨a0, a1, a2, rows, kn, rest, rfl, hS, hr, hX, hm⟩ F1 N1
    rw [map70 hm] at F1
    exact done m₁ h tk rest a0 a1 a2 rows kn hr hS hX F1 N1
end
section
variable {l0 l1 l2 tp nm kp : Addr} {w : World} {A : Around} {E : PySem.Value → Shared → Prop} {s : Shared} {h₀ h : Heap} {L : Addr} {m : PySem.Str → Option PySem.Value} {news led : List (Addr × Obj)} {Q : PySem.Value → Shared → Prop} {o0 o1 o2 : Obj} {prog : Program}
theorem start7 {x1 x2 x3 x4 x5 x6 x7 x8 : Addr × Obj} (N : News h₀ L h [x1, x2, x3, x4, x5, x6, x7, x8]) : News h₀ L h (x8 :: x7 :: x6 :: x1 :: [x2, x4]) := fun p hp => N p (by
  simp only [List.mem_cons, List.not_mem_nil, or_false] at hp ⊢
  rcases hp with h | h | h | h | h | h <;> simp [h])
/-- a list of three of the five, made one way or another -/
theorem join7 {M : Model} {t : Sem PySem.Value} {rest : List (Addr × Obj)} {rows : List PySem.Value} (hS : S7 l0 l1 l2 tp nm kp rest o0 o1 o2 rows) (F : Fr h₀ L s.heap m) (N : News h₀ L s.heap news)
    (H1 : ∀ Q' : PySem.Value → Shared → Prop, (∀ h' tk D n x y z, Fr h₀ L h' m → News h₀ L h' ((D, listOf #[x, y, z] n) :: news) → Five l0 l1 l2 tp x → Five l0 l1 l2 tp y → Five l0 l1 l2 tp z → Q' (.ref D) { s with heap := h', toks := tk }) → wpAny M A t Q' E s)
    (H2 : ∀ h' tk D n x y z, Fr h₀ L h' m → News h₀ L h' ((D, listOf #[x, y, z] n) :: news) → Five l0 l1 l2 tp x → Five l0 l1 l2 tp y → Five l0 l1 l2 tp z → Q (.ref D) { s with heap := h', toks := tk }) : wpAny M A t Q E s := H1 Q H2
/-- a small number, made one way or another -/
theorem joinN7 {M : Model} {t : Sem PySem.Value} (F : Fr h₀ L s.heap m) (N : News h₀ L s.heap news)
    (H1 : ∀ Q' : PySem.Value → Shared → Prop, (∀ h' tk n u, Fr h₀ L h' m → News h₀ L h' news → n.natAbs < 1000 → Q' (.int n u) { s with heap := h', toks := tk }) → wpAny M A t Q' E s)
    (H2 : ∀ h' tk n u, Fr h₀ L h' m → News h₀ L h' news → n.natAbs < 1000 → Q (.int n u) { s with heap := h', toks := tk }) : wpAny M A t Q E s := H1 Q H2
theorem msg7_short {k : Nat} {ta tb tc : PySem.Str} (ha : ta.length ≤ 26010) (hb : tb.length ≤ 26010) (hc : tc.length ≤ 26010) : (msg7 k ta tb tc).length ≤ 1000000 := by
  have e1 : ∀ a b : PySem.Str, (a ++ b).length = a.length + b.length := fun a b => PySem.Str.length_append ..
  have s1 : (Str.ofString "No section: ").length ≤ 100 := Nat.le_of_ble_eq_true (by kernel_rfl)
  have s2 : (Str.ofString "No option ").length ≤ 100 := Nat.le_of_ble_eq_true (by kernel_rfl)
  have s3 : (Str.ofString " in section: ").length ≤ 100 := Nat.le_of_ble_eq_true (by kernel_rfl)
  have s4 : (Str.ofString "While reading from ").length ≤ 100 := Nat.le_of_ble_eq_true (by kernel_rfl)
  have s5 : (Str.ofString ": section ").length ≤ 100 := Nat.le_of_ble_eq_true (by kernel_rfl)
  have s6 : (Str.ofString " already exists").length ≤ 100 := Nat.le_of_ble_eq_true (by kernel_rfl)
  have s7 : (Str.ofString ": option ").length ≤ 100 := Nat.le_of_ble_eq_true (by kernel_rfl)
  have s8 : (Str.ofString " in section ").length ≤ 100 := Nat.le_of_ble_eq_true (by kernel_rfl)
  have s9 : (Str.ofString "Bad value substitution: ").length ≤ 100 := Nat.le_of_ble_eq_true (by kernel_rfl)
  have sa : (Str.ofString " which is not a valid option name. Raw value: ").length ≤ 100 := Nat.le_of_ble_eq_true (by kernel_rfl)
  have sb : (Str.ofString "Recursion limit exceeded in value substitution: ").length ≤ 100 := Nat.le_of_ble_eq_true (by kernel_rfl)
  have sc : (Str.ofString "which cannot be substituted in 10 steps. Raw value: ").length ≤ 100 := Nat.le_of_ble_eq_true (by kernel_rfl)
  have sd : (Str.ofString "option ").length ≤ 100 := Nat.le_of_ble_eq_true (by kernel_rfl)
  have se : (Str.ofString " contains an interpolation key ").length ≤ 100 := Nat.le_of_ble_eq_true (by kernel_rfl)
  have hk : (key7 ta tb).length ≤ 53000 := by unfold key7; simp only [e1]; omega
  unfold msg7
  rcases Nat.lt_or_ge k 6 with h | h
  · have : k = 0 ∨ k = 1 ∨ k = 2 ∨ k = 3 ∨ k = 4 ∨ k = 5 := by omega
    rcases this with rfl | rfl | rfl | rfl | rfl | rfl <;> simp only [msgs7, List.getD_cons_zero, List.getD_cons_succ, e1] <;> omega
  · have hz : (msgs7 ta tb tc).getD k default = default := by
      rw [List.getD_eq_getElem?_getD, List.getElem?_eq_none (by simpa [msgs7] using h)]
      rfl
    rw [hz]
    decide
/-- what is new is none of the old -/
def New7 (l0 l1 l2 kp : Addr) (led : List (Addr × Obj)) (a : Addr) : Prop := a ≠ l0 ∧ a ≠ l1 ∧ a ≠ l2 ∧ a ≠ kp ∧ ∀ q ∈ led, q.1 ≠ a
theorem fresh7 {a : Addr} {ok : Obj} (h : ∀ p ∈ news, p.1 ≠ a) (m0 : (l0, o0) ∈ news) (m1 : (l1, o1) ∈ news) (m2 : (l2, o2) ∈ news) (mk : (kp, ok) ∈ news) (ml : ∀ p ∈ led, p ∈ news) : New7 l0 l1 l2 kp led a :=
  ⟨fun e => h _ m0 e.symm, fun e => h _ m1 e.symm, fun e => h _ m2 e.symm, fun e => h _ mk e.symm, fun q hq => h q (ml q hq)⟩
/-- a row is put onto the kept ones -/
theorem put7 {rows : List PySem.Value} {kn : Nat} {v : PySem.Value} {r e c t : Addr} {ro eo co to : Obj} (F : Fr h₀ L s.heap m) (N : News h₀ L s.heap news) (mr : (r, ro) ∈ news) (me : (e, eo) ∈ news) (mc : (c, co) ∈ news) (mt : (t, to) ∈ news) (m0 : (l0, o0) ∈ news) (m1 : (l1, o1) ∈ news) (m2 : (l2, o2) ∈ news) (mk : (kp, listOf rows.toArray kn) ∈ news) (ml : ∀ p ∈ led, p ∈ news)
    (d : l0 ≠ l1 ∧ l0 ≠ l2 ∧ l1 ≠ l2 ∧ l0 ≠ kp ∧ l1 ≠ kp ∧ l2 ≠ kp) (fr : New7 l0 l1 l2 kp led r) (fe : New7 l0 l1 l2 kp led e) (fc : New7 l0 l1 l2 kp led c) (ft : New7 l0 l1 l2 kp led t) (hl : ∀ p ∈ led, p.1 ≠ l0 ∧ p.1 ≠ l1 ∧ p.1 ≠ l2 ∧ p.1 ≠ kp) (len : rows.length ≤ 1000)
    (h : ∀ h', Fr h₀ L h' m → News h₀ L h' ((l0, o0) :: (l1, o1) :: (l2, o2) :: (kp, listOf (rows ++ [v]).toArray (kn + 1)) :: ([(r, ro), (e, eo), (c, co), (t, to)] ++ led)) → (∀ p ∈ [(r, ro), (e, eo), (c, co), (t, to)], New7 l0 l1 l2 kp led p.1) → Q .none { s with heap := h' }) : wpAny (model prog w) A (call (.builtin "list.append") [.ref kp, v]) Q E s := by
  have hn : ∀ p ∈ [(r, ro), (e, eo), (c, co), (t, to)], New7 l0 l1 l2 kp led p.1 := fun p hp => by
    simp only [List.mem_cons, List.not_mem_nil, or_false] at hp
    rcases hp with rfl | rfl | rfl | rfl <;> assumption
  refine app_led7 (n := kn) (r := (l0, o0) :: (l1, o1) :: (l2, o2) :: ([(r, ro), (e, eo), (c, co), (t, to)] ++ led)) F (fun p hp => N p ?_) (fun p hp => ?_) len (fun h' F' N' => h h' F' (fun p hp => N' p ?_) hn)
  · simp only [List.mem_cons, List.mem_append, List.not_mem_nil, or_false] at hp
    rcases hp with rfl | rfl | rfl | rfl | (rfl | rfl | rfl | rfl) | hp
    · exact mk
    · exact m0
    · exact m1
    · exact m2
    · exact mr
    · exact me
    · exact mc
    · exact mt
    · exact ml p hp
  · rcases List.mem_cons.mp hp with rfl | hp
    · exact d.2.2.2.1
    rcases List.mem_cons.mp hp with rfl | hp
    · exact d.2.2.2.2.1
    rcases List.mem_cons.mp hp with rfl | hp
    · exact d.2.2.2.2.2
    rcases List.mem_append.mp hp with hp | hp
    · exact (hn p hp).2.2.2.1
    · exact (hl p hp).2.2.2
  · rcases List.mem_cons.mp hp with rfl | hp
    · exact .tail _ (.head _)
    rcases List.mem_cons.mp hp with rfl | hp
    · exact .tail _ (.tail _ (.head _))
    rcases List.mem_cons.mp hp with rfl | hp
    · exact .tail _ (.tail _ (.tail _ (.head _)))
    rcases List.mem_cons.mp hp with rfl | hp
    · exact .head _
    · exact .tail _ (.tail _ (.tail _ (.tail _ hp)))
theorem ne_all {d : Addr} : ∀ {l : List (Addr × Obj)}, AllNe d l → ∀ p ∈ l, p.1 ≠ d
  | [], _, _, h => nomatch h
  | _ :: _, a, p, h => by
    rcases List.mem_cons.mp h with rfl | h
    · exact a.1
    · exact ne_all a.2 p h
theorem lt_all {d : Addr} : ∀ {l : List (Addr × Obj)}, AllLt d l → ∀ p ∈ l, p.1 < d
  | [], _, _, h => nomatch h
  | _ :: _, a, p, h => by
    rcases List.mem_cons.mp h with rfl | h
    · exact a.1
    · exact lt_all a.2 p h
theorem news_cons7 {q : Addr × Obj} (N : News h₀ L h news) (hq : q ∈ news) : News h₀ L h (q :: news) := fun p hp => by
  rcases List.mem_cons.mp hp with rfl | hp
  · exact N _ hq
  · exact N p hp
theorem drop2 {a b c : Addr × Obj} (N : News h₀ L h (a :: b :: c :: news)) : News h₀ L h (a :: news) := fun p hp => by
  rcases List.mem_cons.mp hp with rfl | hp
  · exact N _ (.head _)
  · exact N p (.tail _ (.tail _ (.tail _ hp)))
theorem mod6 (i : Int) : 0 ≤ Int.fmod i 6 ∧ Int.fmod i 6 < 6 := ⟨Int.fmod_nonneg_of_pos i (by decide), Int.fmod_lt_of_pos i (by decide)⟩
end
section
variable {p : Program} {loose : List PySem.Str} {mean : ExcName → Option PySem.Value} {mg mb : PySem.Str → Option PySem.Value}
variable {l0 l1 l2 tp nm kp r : Addr} {w : World} {A : Around} {E : PySem.Value → Shared → Prop} {s : Shared} {env : Env} {h₀ h : Heap} {L : Addr} {m : PySem.Str → Option PySem.Value} {news rest : List (Addr × Obj)} {Q : PySem.Value → Shared → Prop} {o0 o1 o2 : Obj} {prog : Program} {rows : List PySem.Value} {q : Addr × Obj}
theorem S7.cons (x : S7 l0 l1 l2 tp nm kp rest o0 o1 o2 rows) (h : q.1 ≠ l0 ∧ q.1 ≠ l1 ∧ q.1 ≠ l2 ∧ q.1 ≠ kp) : S7 l0 l1 l2 tp nm kp (q :: rest) o0 o1 o2 rows :=
  ⟨x.k0, x.k1, x.k2, .tail _ x.mt, x.mn.imp fun _ h => .tail _ h, x.rows.sub fun p hp => .tail _ hp, x.d, fun p hp => by
    rcases List.mem_cons.mp hp with rfl | hp
    · exact h
    · exact x.off p hp⟩
theorem rot5 {a b c d e : Addr × Obj} (N : News h₀ L h (a :: b :: c :: d :: e :: news)) : News h₀ L h (b :: c :: d :: e :: a :: news) := fun p hp => N p (by
  simp only [List.mem_cons] at hp ⊢
  rcases hp with h | h | h | h | h | h <;> simp [h])
/-- a comprehension whose test never holds -/
theorem comp_none7 {ct elt : PySem.Expr} {x : PySem.Str} {scope : Scope} {cl : List (PySem.Str × Addr)} {S : List (Addr × Obj) → Prop} {P : Nat → PySem.Value → Prop} {Fin : List PySem.Value → List (Addr × Obj) → Prop} {n : Nat} (hS : S news)
    (turn : ∀ i v I oI C oC D m₂ h tk (E' : PySem.Value → Shared → Prop), P i v → LCg.NsObj oC m₂ → m₂ x = some v → Fr h₀ L h m → News h₀ L h ((I, oI) :: (C, oC) :: (D, LCg.lst []) :: news) →
      ∀ Q' : Bool → Shared → Prop, (∀ h' tk', Fr h₀ L h' m → News h₀ L h' ((I, oI) :: (C, oC) :: (D, LCg.lst []) :: news) → Q' false { s with heap := h', toks := tk' }) → wpAny (model prog w) A (isTrue ct (compEnvC scope cl C env) (eval ct (compEnvC scope cl C env))) Q' E' { s with heap := h, toks := tk })
    (fin : Fin [] news) : LCt.CompRestT prog w A h₀ L m env ct elt x scope cl s S P Fin n 0 [] news := by
  have key : ∀ (j i : Nat), LCt.CompRestT prog w A h₀ L m env ct elt x scope cl s S P Fin j i [] news := by
    intro j
    induction j with
    | zero => exact fun i => LCt.CompRestT.zero fin
    | succ j ih =>
      intro i
      refine LCt.CompRestT.succ ?_
      intro v I oI C oC D m₂ h tk E' hv hC hx F N off ne
      refine turn i v I oI C oC D m₂ h tk E' hv hC hx F N _ fun h' tk' F' N' => ?_
      rw [if_neg Bool.false_ne_true]
      exact ⟨h', tk', news, rfl, F', N', off, hS, ih (i + 1)⟩
  exact key n 0
/-- _law_right asked of a row of the ledger -/
theorem right_use {led : List (Addr × Obj)} (F : Fr h₀ L s.heap m) (X₀ : (KP7 w).In h₀) (T : Top p loose mean mg mb s.heap) (N : News h₀ L s.heap news) (hs : ∀ p ∈ led, p ∈ news) (m0 : (l0, o0) ∈ led) (m1 : (l1, o1) ∈ led) (m2 : (l2, o2) ∈ led) (mt : (tp, tupObj [.ref l0]) ∈ led) (k0 : LstOk o0) (k1 : LstOk o1) (k2 : LstOk o2) (R : Row7 led l0 l1 l2 tp r)
    (a1 : A.handled = none) (a2 : A.guards = some []) (a3 : A.depth ≤ 450) (a4 : A.units ≤ 1500) (q : ∀ h' tk, Fr h₀ L h' m → News h₀ L h' news → Q (.bool true) { s with heap := h', toks := tk }) : wpAny (model P07 w) A (call (.ref 213) [.ref r]) Q E s := by
  obtain ⟨e, k, kt, a, b, c, words, ut, n, h1, h2, h3, h4, h5, h6, h7, h8⟩ := R
  have hfv := fun v => five_at (v := v) X₀ N (hs _ m0) (hs _ m1) (hs _ m2) (hs _ mt) k0 k1 k2
  obtain ⟨da, xa⟩ := hfv _ h4
  obtain ⟨db, xb⟩ := hfv _ h5
  obtain ⟨dc, xc⟩ := hfv _ h6
  exact weaken a1 a2 a3 a4 (right7 w s r e k kt ut n h2 h3 a b c da db dc words (N _ (hs _ h1)).1 ((h8.sub hs).at N) xa xb xc h7 Q E (X₀.keeps F.keep) T fun h' tk g => q h' tk (fr_grow F g) (news_grow N g))
theorem eq_nil7 {a b : Addr} {n1 n2 : Nat} (N : News h₀ L s.heap news) (m1 : (a, listOf #[] n1) ∈ news) (m2 : (b, listOf #[] n2) ∈ news) (hu : A.units + 2 < cLine) (q : Q (.bool true) s) :
    wpAny (model prog w) A (compareOp .Eq (.ref a) (.ref b)) Q E s := by
  have := RcAt.lists (A := A) (e := fun _ => true) (News.isList N m1) (News.isList N m2) rfl (by omega) fun j h1 h2 => absurd h2 (by simp)
  exact this prog w E Q q
theorem len_list7 {l : Addr} {vs : List PySem.Value} {n : Nat} (N : News h₀ L s.heap news) (hm : (l, listOf vs.toArray n) ∈ news) (hl : vs.length ≤ 1000) (q : ∀ u tk, Q (.int (vs.length : Int) u) { s with toks := tk }) : wpAny (model prog w) A (call (.builtin "len") [.ref l]) Q E s := by
  refine len_list (News.isList N hm) ?_ ?_ <;> first | (rw [List.size_toArray]; omega) | (rw [List.size_toArray]; exact q _ _)
end
theorem divs7 (x : Int) : 0 ≤ (if x < 0 then -x else x).fdiv 9 ∧ 0 ≤ (if x < 0 then -x else x).fmod 9 := by
  have h : 0 ≤ (if x < 0 then -x else x) := by split <;> omega
  exact ⟨Int.fdiv_nonneg h (by decide), Int.fmod_nonneg_of_pos _ (by decide)⟩
theorem small7 {r : Int} (h : 0 ≤ r) : (r.fmod 1000).natAbs < 1000 ∧ (-(r.fmod 1000)).natAbs < 1000 := by
  have h1 := Int.fmod_nonneg_of_pos r (b := 1000) (by decide)
  have h2 := Int.fmod_lt_of_pos r (b := 1000) (by decide)
  omega
theorem mod5 (i : Int) : 0 ≤ Int.fmod i 5 ∧ Int.fmod i 5 < 5 := ⟨Int.fmod_nonneg_of_pos i (by decide), Int.fmod_lt_of_pos i (by decide)⟩
theorem mod3 (i : Int) : 0 ≤ Int.fmod i 3 ∧ Int.fmod i 3 < 3 := ⟨Int.fmod_nonneg_of_pos i (by decide), Int.fmod_lt_of_pos i (by decide)⟩
section
variable {l0 l1 l2 tp nm kp : Addr} {w : World} {A : Around} {E : PySem.Value → Shared → Prop} {s : Shared} {h₀ h : Heap} {L : Addr} {m : PySem.Str → Option PySem.Value} {news led : List (Addr × Obj)} {Q : PySem.Value → Shared → Prop} {o0 o1 o2 no : Obj} {prog : Program} {k : Int} {pk : Addr} {value slice : PySem.Expr}
/-- the list that is turned stands at the head -/
theorem three7 (N : News h₀ L h ((nm, no) :: (l0, o0) :: (l1, o1) :: (l2, o2) :: led)) (hne : ∀ p ∈ led, p.1 ≠ l0 ∧ p.1 ≠ l1 ∧ p.1 ≠ l2) (d01 : l0 ≠ l1) (d02 : l0 ≠ l2) (d12 : l1 ≠ l2) (k0 : LstOk o0) (k1 : LstOk o1) (k2 : LstOk o2) :
    ∃ pk r us ns n, pick3 k l0 l1 l2 = pk ∧ News h₀ L h ((nm, no) :: (pk, listOf us.toArray n) :: r) ∧ (∀ p ∈ r, p.1 ≠ pk) ∧ IntsAre us ns ∧ Few ns ∧ us.length = ns.length ∧
      ∀ h' vs ns' n', IntsAre vs ns' → Few ns' → News h₀ L h' ((pk, listOf vs.toArray n') :: r) → ∃ a0 a1 a2, LstOk a0 ∧ LstOk a1 ∧ LstOk a2 ∧ News h₀ L h' ((l0, a0) :: (l1, a1) :: (l2, a2) :: led) := by
  obtain ⟨r, N1, hr, ⟨us, ns, n, e, hi, hf⟩, back⟩ := three_at (k := k) (fun p hp => N p (.tail _ hp)) hne d01 d02 d12 k0 k1 k2
  rw [e] at N1
  have hlen : us.length = ns.length := by
    clear hf e N1 back
    induction hi with
    | nil => rfl
    | cons _ _ _ ih => simp [ih]
  refine ⟨_, r, us, ns, n, rfl, fun p hp => ?_, hr, hi, hf, hlen, fun h' vs ns' n' i f N' => back h' _ ⟨vs, ns', n', rfl, i, f⟩ N'⟩
  rcases List.mem_cons.mp hp with rfl | hp
  · exact N _ (.head _)
  · exact N1 p hp
theorem item_pick {l : Addr} {n : Nat} {u : Tok} {x y : PySem.Value} (e : pick3 k l0 l1 l2 = pk) (N : News h₀ L s.heap news) (hl : (l, listOf #[.ref l0, .ref l1, .ref l2, x, y] n) ∈ news) (hk : 0 ≤ k ∧ k < 3)
    (h : Q (.ref pk) s) (hs : subscripted slice false (.ref l) (.int k u) = operate [.ref l, .int k u] (getItem (.ref l) (.int k u)) := by with_unfolding_all rfl) :
    wpAny (model prog w) A (subscriptTail value slice (.ref l) (.int k u)) Q E s := by
  subst e
  exact item_three N hl hk.1 hk.2 h hs
theorem few_nil : Few [] := ⟨Nat.zero_le _, fun y hy => nomatch hy⟩
theorem few_snoc {ns : List Int} {us : List PySem.Value} {x : Int} (f : Few ns) (e : us.length = ns.length) (h : (us.length : Int) < 5) (hx : x.natAbs < 1000) : Few (ns ++ [x]) := by
  refine ⟨by rw [List.length_append, List.length_singleton]; omega, fun y hy => ?_⟩
  rcases List.mem_append.mp hy with hy | hy
  · exact f.2 y hy
  · rw [List.mem_singleton.mp hy]; exact hx
end
theorem off7 {l0 l1 l2 tp nm kp : Addr} {rest led : List (Addr × Obj)} {o0 o1 o2 ko : Obj} {rows : List PySem.Value} (hS : S7 l0 l1 l2 tp nm kp rest o0 o1 o2 rows) (hoff : ∀ p ∈ led, p.1 ≠ l0 ∧ p.1 ≠ l1 ∧ p.1 ≠ l2 ∧ p.1 ≠ kp) : ∀ p ∈ (kp, ko) :: led, p.1 ≠ l0 ∧ p.1 ≠ l1 ∧ p.1 ≠ l2 := fun p hp => by
  rcases List.mem_cons.mp hp with rfl | hp
  · exact ⟨Ne.symm hS.d.2.2.2.1, Ne.symm hS.d.2.2.2.2.1, Ne.symm hS.d.2.2.2.2.2⟩
  · exact ⟨(hoff p hp).1, (hoff p hp).2.1, (hoff p hp).2.2.1⟩
end
section
open PySem.SeqAt
theorem lay3 : True := by
  k_with_none
  k_with "ne" => (with_reducible (first | exact ns1 | exact ns2 | exact qlt (by assumption) | exact qgt (by assumption) | exact qne (by assumption) | exact qen (by assumption) | exact rlt (by assumption) | exact rgt (by assumption) | exact rne (by assumption) | exact ren (by assumption) | exact qlt (And.right (by assumption)) | exact qgt (And.right (by assumption)) | exact qne (And.right (by assumption)) | exact qen (And.right (by assumption)) | exact rlt (And.right (by assumption)) | exact rgt (And.right (by assumption)) | exact rne (And.right (by assumption)) | exact ren (And.right (by assumption)) | exact qlt (And.right (And.right (by assumption))) | exact qgt (And.right (And.right (by assumption))) | exact qne (And.right (And.right (by assumption))) | exact qen (And.right (And.right (by assumption))) | exact rlt (And.right (And.right (by assumption))) | exact rgt (And.right (And.right (by assumption))) | exact rne (And.right (And.right (by assumption))) | exact ren (And.right (And.right (by assumption))) | exact qlt (And.right (And.right (And.right (by assumption)))) | exact qgt (And.right (And.right (And.right (by assumption)))) | exact qne (And.right (And.right (And.right (by assumption)))) | exact qen (And.right (And.right (And.right (by assumption)))) | exact rlt (And.right (And.right (And.right (by assumption)))) | exact rgt (And.right (And.right (And.right (by assumption)))) | exact rne (And.right (And.right (And.right (by assumption)))) | exact ren (And.right (And.right (And.right (by assumption)))) | exact qlt (And.right (And.right (And.right (And.right (by assumption))))) | exact qgt (And.right (And.right (And.right (And.right (by assumption))))) | exact qne (And.right (And.right (And.right (And.right (by assumption))))) | exact qen (And.right (And.right (And.right (And.right (by assumption))))) | exact rlt (And.right (And.right (And.right (And.right (by assumption))))) | exact rgt (And.right (And.right (And.right (And.right (by assumption))))) | exact rne (And.right (And.right (And.right (And.right (by assumption))))) | exact ren (And.right (And.right (And.right (And.right (by assumption))))) | exact qlt (And.right (And.right (And.right (And.right (And.right (by assumption)))))) | exact qgt (And.right (And.right (And.right (And.right (And.right (by assumption)))))) | exact qne (And.right (And.right (And.right (And.right (And.right (by assumption)))))) | exact qen (And.right (And.right (And.right (And.right (And.right (by assumption)))))) | exact rlt (And.right (And.right (And.right (And.right (And.right (by assumption)))))) | exact rgt (And.right (And.right (And.right (And.right (And.right (by assumption)))))) | exact rne (And.right (And.right (And.right (And.right (And.right (by assumption)))))) | exact ren (And.right (And.right (And.right (And.right (And.right (by assumption)))))) | exact qlt (And.right (And.right (And.right (And.right (And.right (And.right (by assumption))))))) | exact qgt (And.right (And.right (And.right (And.right (And.right (And.right (by assumption))))))) | exact qne (And.right (And.right (And.right (And.right (And.right (And.right (by assumption))))))) | exact qen (And.right (And.right (And.right (And.right (And.right (And.right (by assumption))))))) | exact rlt (And.right (And.right (And.right (And.right (And.right (And.right (by assumption))))))) | exact rgt (And.right (And.right (And.right (And.right (And.right (And.right (by assumption))))))) | exact rne (And.right (And.right (And.right (And.right (And.right (And.right (by assumption))))))) | exact ren (And.right (And.right (And.right (And.right (And.right (And.right (by assumption))))))) | exact qlt (And.right (And.right (And.right (And.right (And.right (And.right (And.right (by assumption)))))))) | exact qgt (And.right (And.right (And.right (And.right (And.right (And.right (And.right (by assumption)))))))) | exact qne (And.right (And.right (And.right (And.right (And.right (And.right (And.right (by assumption)))))))) | exact qen (And.right (And.right (And.right (And.right (And.right (And.right (And.right (by assumption)))))))) | exact rlt (And.right (And.right (And.right (And.right (And.right (And.right (And.right (by assumption)))))))) | exact rgt (And.right (And.right (And.right (And.right (And.right (And.right (And.right (by assumption)))))))) | exact rne (And.right (And.right (And.right (And.right (And.right (And.right (And.right (by assumption)))))))) | exact ren (And.right (And.right (And.right (And.right (And.right (And.right (And.right (by assumption)))))))) | exact qlt (And.right (And.right (And.right (And.right (And.right (And.right (And.right (And.right (by assumption))))))))) | exact qgt (And.right (And.right (And.right (And.right (And.right (And.right (And.right (And.right (by assumption))))))))) | exact qne (And.right (And.right (And.right (And.right (And.right (And.right (And.right (And.right (by assumption))))))))) | exact qen (And.right (And.right (And.right (And.right (And.right (And.right (And.right (And.right (by assumption))))))))) | exact rlt (And.right (And.right (And.right (And.right (And.right (And.right (And.right (And.right (by assumption))))))))) | exact rgt (And.right (And.right (And.right (And.right (And.right (And.right (And.right (And.right (by assumption))))))))) | exact rne (And.right (And.right (And.right (And.right (And.right (And.right (And.right (And.right (by assumption))))))))) | exact ren (And.right (And.right (And.right (And.right (And.right (And.right (And.right (And.right (by assumption))))))))) | exact qlt (And.right (And.right (And.right (And.right (And.right (And.right (And.right (And.right (And.right (by assumption)))))))))) | exact qgt (And.right (And.right (And.right (And.right (And.right (And.right (And.right (And.right (And.right (by assumption)))))))))) | exact qne (And.right (And.right (And.right (And.right (And.right (And.right (And.right (And.right (And.right (by assumption)))))))))) | exact qen (And.right (And.right (And.right (And.right (And.right (And.right (And.right (And.right (And.right (by assumption)))))))))) | exact rlt (And.right (And.right (And.right (And.right (And.right (And.right (And.right (And.right (And.right (by assumption)))))))))) | exact rgt (And.right (And.right (And.right (And.right (And.right (And.right (And.right (And.right (And.right (by assumption)))))))))) | exact rne (And.right (And.right (And.right (And.right (And.right (And.right (And.right (And.right (And.right (by assumption)))))))))) | exact ren (And.right (And.right (And.right (And.right (And.right (And.right (And.right (And.right (And.right (by assumption)))))))))) | exact qlt (And.right (And.right (And.right (And.right (And.right (And.right (And.right (And.right (And.right (And.right (by assumption))))))))))) | exact qgt (And.right (And.right (And.right (And.right (And.right (And.right (And.right (And.right (And.right (And.right (by assumption))))))))))) | exact qne (And.right (And.right (And.right (And.right (And.right (And.right (And.right (And.right (And.right (And.right (by assumption))))))))))) | exact qen (And.right (And.right (And.right (And.right (And.right (And.right (And.right (And.right (And.right (And.right (by assumption))))))))))) | exact rlt (And.right (And.right (And.right (And.right (And.right (And.right (And.right (And.right (And.right (And.right (by assumption))))))))))) | exact rgt (And.right (And.right (And.right (And.right (And.right (And.right (And.right (And.right (And.right (And.right (by assumption))))))))))) | exact rne (And.right (And.right (And.right (And.right (And.right (And.right (And.right (And.right (And.right (And.right (by assumption))))))))))) | exact ren (And.right (And.right (And.right (And.right (And.right (And.right (And.right (And.right (And.right (And.right (by assumption))))))))))) | exact qlt (And.right (And.right (And.right (And.right (And.right (And.right (And.right (And.right (And.right (And.right (And.right (by assumption)))))))))))) | exact qgt (And.right (And.right (And.right (And.right (And.right (And.right (And.right (And.right (And.right (And.right (And.right (by assumption)))))))))))) | exact qne (And.right (And.right (And.right (And.right (And.right (And.right (And.right (And.right (And.right (And.right (And.right (by assumption)))))))))))) | exact qen (And.right (And.right (And.right (And.right (And.right (And.right (And.right (And.right (And.right (And.right (And.right (by assumption)))))))))))) | exact rlt (And.right (And.right (And.right (And.right (And.right (And.right (And.right (And.right (And.right (And.right (And.right (by assumption)))))))))))) | exact rgt (And.right (And.right (And.right (And.right (And.right (And.right (And.right (And.right (And.right (And.right (And.right (by assumption)))))))))))) | exact rne (And.right (And.right (And.right (And.right (And.right (And.right (And.right (And.right (And.right (And.right (And.right (by assumption)))))))))))) | exact ren (And.right (And.right (And.right (And.right (And.right (And.right (And.right (And.right (And.right (And.right (And.right (by assumption)))))))))))) | exact qlt (And.right (And.right (And.right (And.right (And.right (And.right (And.right (And.right (And.right (And.right (And.right (And.right (by assumption))))))))))))) | exact qgt (And.right (And.right (And.right (And.right (And.right (And.right (And.right (And.right (And.right (And.right (And.right (And.right (by assumption))))))))))))) | exact qne (And.right (And.right (And.right (And.right (And.right (And.right (And.right (And.right (And.right (And.right (And.right (And.right (by assumption))))))))))))) | exact qen (And.right (And.right (And.right (And.right (And.right (And.right (And.right (And.right (And.right (And.right (And.right (And.right (by assumption))))))))))))) | exact rlt (And.right (And.right (And.right (And.right (And.right (And.right (And.right (And.right (And.right (And.right (And.right (And.right (by assumption))))))))))))) | exact rgt (And.right (And.right (And.right (And.right (And.right (And.right (And.right (And.right (And.right (And.right (And.right (And.right (by assumption))))))))))))) | exact rne (And.right (And.right (And.right (And.right (And.right (And.right (And.right (And.right (And.right (And.right (And.right (And.right (by assumption))))))))))))) | exact ren (And.right (And.right (And.right (And.right (And.right (And.right (And.right (And.right (And.right (And.right (And.right (And.right (by assumption))))))))))))) | exact qlt (And.right (And.right (And.right (And.right (And.right (And.right (And.right (And.right (And.right (And.right (And.right (And.right (And.right (by assumption)))))))))))))) | exact qgt (And.right (And.right (And.right (And.right (And.right (And.right (And.right (And.right (And.right (And.right (And.right (And.right (And.right (by assumption)))))))))))))) | exact qne (And.right (And.right (And.right (And.right (And.right (And.right (And.right (And.right (And.right (And.right (And.right (And.right (And.right (by assumption)))))))))))))) | exact qen (And.right (And.right (And.right (And.right (And.right (And.right (And.right (And.right (And.right (And.right (And.right (And.right (And.right (by assumption)))))))))))))) | exact rlt (And.right (And.right (And.right (And.right (And.right (And.right (And.right (And.right (And.right (And.right (And.right (And.right (And.right (by assumption)))))))))))))) | exact rgt (And.right (And.right (And.right (And.right (And.right (And.right (And.right (And.right (And.right (And.right (And.right (And.right (And.right (by assumption)))))))))))))) | exact rne (And.right (And.right (And.right (And.right (And.right (And.right (And.right (And.right (And.right (And.right (And.right (And.right (And.right (by assumption)))))))))))))) | exact ren (And.right (And.right (And.right (And.right (And.right (And.right (And.right (And.right (And.right (And.right (And.right (And.right (And.right (by assumption)))))))))))))) | exact qlt (And.right (And.right (And.right (And.right (And.right (And.right (And.right (And.right (And.right (And.right (And.right (And.right (And.right (And.right (by assumption))))))))))))))) | exact qgt (And.right (And.right (And.right (And.right (And.right (And.right (And.right (And.right (And.right (And.right (And.right (And.right (And.right (And.right (by assumption))))))))))))))) | exact qne (And.right (And.right (And.right (And.right (And.right (And.right (And.right (And.right (And.right (And.right (And.right (And.right (And.right (And.right (by assumption))))))))))))))) | exact qen (And.right (And.right (And.right (And.right (And.right (And.right (And.right (And.right (And.right (And.right (And.right (And.right (And.right (And.right (by assumption))))))))))))))) | exact rlt (And.right (And.right (And.right (And.right (And.right (And.right (And.right (And.right (And.right (And.right (And.right (And.right (And.right (And.right (by assumption))))))))))))))) | exact rgt (And.right (And.right (And.right (And.right (And.right (And.right (And.right (And.right (And.right (And.right (And.right (And.right (And.right (And.right (by assumption))))))))))))))) | exact rne (And.right (And.right (And.right (And.right (And.right (And.right (And.right (And.right (And.right (And.right (And.right (And.right (And.right (And.right (by assumption))))))))))))))) | exact ren (And.right (And.right (And.right (And.right (And.right (And.right (And.right (And.right (And.right (And.right (And.right (And.right (And.right (And.right (by assumption))))))))))))))) | exact qlt (And.right (And.right (And.right (And.right (And.right (And.right (And.right (And.right (And.right (And.right (And.right (And.right (And.right (And.right (And.right (by assumption)))))))))))))))) | exact qgt (And.right (And.right (And.right (And.right (And.right (And.right (And.right (And.right (And.right (And.right (And.right (And.right (And.right (And.right (And.right (by assumption)))))))))))))))) | exact qne (And.right (And.right (And.right (And.right (And.right (And.right (And.right (And.right (And.right (And.right (And.right (And.right (And.right (And.right (And.right (by assumption)))))))))))))))) | exact qen (And.right (And.right (And.right (And.right (And.right (And.right (And.right (And.right (And.right (And.right (And.right (And.right (And.right (And.right (And.right (by assumption)))))))))))))))) | exact rlt (And.right (And.right (And.right (And.right (And.right (And.right (And.right (And.right (And.right (And.right (And.right (And.right (And.right (And.right (And.right (by assumption)))))))))))))))) | exact rgt (And.right (And.right (And.right (And.right (And.right (And.right (And.right (And.right (And.right (And.right (And.right (And.right (And.right (And.right (And.right (by assumption)))))))))))))))) | exact rne (And.right (And.right (And.right (And.right (And.right (And.right (And.right (And.right (And.right (And.right (And.right (And.right (And.right (And.right (And.right (by assumption)))))))))))))))) | exact ren (And.right (And.right (And.right (And.right (And.right (And.right (And.right (And.right (And.right (And.right (And.right (And.right (And.right (And.right (And.right (by assumption))))))))))))))))))
  trivial
theorem lay4 : True := by
  k_with "mine texts" => ((try dsimp only [← sx0, ← sx1, ← sx2, ← sx3, ← sx4, ← sx5, ← sx6, ← sx7, ← sx8, ← sx9, ← sx10, ← sx11, ← sx12, ← sx13, ← sx14, ← sx15, ← sx16, ← sx17, ← sx18, ← sx19, ← sx20, ← sx21, ← sx22, ← sx23, ← sx24, ← sx25, ← sx26, ← sx27, ← sx28, ← sx29, ← sx30, ← sx31, ← sx32, ← sx33, ← sx34, ← sx35, ← sx36, ← sx37, ← sx38, ← sx39, ← sx40, ← sx41, ← sx42, ← sx43, ← sx44, ← sx45, ← sx46, ← sx47, ← sx48, ← sx49, ← sx50, ← sx51, ← sx52, ← sx53, ← sx54, ← sx55, ← sx56, ← sx57, ← sx58, ← sx59, ← sx60, ← sx61, ← sx62, ← sx63, ← sx64, ← sx65, ← sx66, ← sx67, ← sx68, ← sx69, ← sx70, ← sx71, ← sx72, ← sx73, ← sx74, ← sx75, ← sx76, ← sx77, ← sx78, ← sx79, ← sx80, ← sx81, ← sx82, ← sx83, ← sx84, ← sx85, ← sx86, ← sx87, ← sx88, ← sx89, ← sx90, ← sx91, ← sx92, ← sx93, ← sx94, ← sx95, ← sx96, ← sx97, ← sx98, ← sx99, ← sx100, ← sx101, ← sx102, ← sx103, ← sx104, ← sx105, ← sx106, ← sx107, ← sx108, ← sx109]))
  k_with "mine drop" => (first | (refine' Drop.head ?a; (case a => k_all)) | (refine' Drop.tail ?a ?b; (case a => k_ne); (case b => walk_at "mine drop")))
  k_with "setAttr ref" => ((k_here; k_dflt (first | (refine' exc_set0 ?k1 ?k2 ?k3 ?k4 ?k5 ?k6 ?k7 ?k8 ?k9 ?_; (case k1 => k_asm); (case k2 => k_asm); (case k3 => k_asm); (case k4 => k_mem); (case k5 => k_is); (case k6 => kernel_rfl); (case k7 => k_is); (case k8 => k_is); (case k9 => intro zqd; k_upd); k_whole; intro zqdp zqhp zqFp zqNp zql1; (try k_lt zql1)) | (refine' exc_set_args ?k1 ?k2 ?k3 ?k4 ?k5 ?k6 ?k7 ?k8 ?k9 ?k10 ?_; (case k1 => k_asm); (case k2 => k_asm); (case k3 => k_asm); (case k4 => first | (refine' InstAt.of_exc ?N ?h1 ?h2; (case N => k_asm); (case h1 => k_mem); (case h2 => k_mem)) | (refine' InstAt.of_exc0 ?N ?h1; (case N => k_asm); (case h1 => k_mem))); (case k5 => exact isTup_of (by k_asm) (by k_mem)); (case k6 => k_is); (case k7 => kernel_rfl); (case k8 => k_is); (case k9 => k_is); (case k10 => k_upd); k_whole; intro zqhp zqFp zqNp) | (refine' exc_set ?k1 ?k2 ?k3 ?k4 ?k5 ?k6 ?k7 ?k8 ?k9 ?k10 ?k11 ?k12 ?_; (case k1 => k_asm); (case k2 => k_asm); (case k3 => k_asm); (case k4 => first | (refine' InstAt.of_exc ?N ?h1 ?h2; (case N => k_asm); (case h1 => k_mem); (case h2 => k_mem)) | (refine' InstAt.of_exc0 ?N ?h1; (case N => k_asm); (case h1 => k_mem))); (case k5 => k_is); (case k6 => kernel_rfl); (case k7 => k_is); (case k8 => k_is); (case k9 => k_get); (case k10 => k_put); (case k11 => k_upd); (case k12 => exact Nat.le_of_ble_eq_true rfl); k_whole; intro zqhp zqFp zqNp))))
  k_with "call builtin:Exception.__init__" => ((k_here; k_dflt (refine' exc_init_call ?k1 ?k2 ?k3 ?k4 ?k5 ?k6 ?_; (case k1 => k_asm); (case k2 => k_asm); (case k3 => k_asm); (case k4 => first | (refine' InstAt.of_exc ?N ?h1 ?h2; (case N => k_asm); (case h1 => k_mem); (case h2 => k_mem)) | (refine' InstAt.of_exc0 ?N ?h1; (case N => k_asm); (case h1 => k_mem))); (case k5 => k_is); (case k6 => intro zqt; k_upd); k_whole; intro zqtp zqhp zqFp zqNp zql1; (try k_lt zql1))))
  k_with "call builtin:repr" => ((k_here; k_dflt (refine' repr_use ?k1 ?k2 ?k3 ?k4 ?k5 ?k6 ?k7 ?_; (case k1 => assumption); (case k2 => k_asm); (case k3 => k_asm); (case k4 => exact rfl); (case k5 => exact rfl); (case k6 => exact Nat.le_of_ble_eq_true rfl); (case k7 => exact Nat.le_of_ble_eq_true rfl); k_whole; intro zqhp zqup zqtkp zqFp zqNp)))
  k_with "BackIn" => ((k_dflt (refine' back_ ?k1 ?k2 ?k3 ?_; (case k1 => k_asm); (case k2 => k_asm); (case k3 => walk_at "mine drop"); k_whole; intro zqFp zqNp; (try dsimp only))))
  k_with "call ref" => ((k_here; k_dflt (refine wpAny_call ?_; refine' enter_in ?k1 ?k2 ?k3 ?k4 ?k5 ?k6 ?k7 ?k8 ?kB ?c2 ?c3 ?c4 ?c5 ?_; (case k1 => k_asm); (case k2 => k_asm); (case k3 => k_asm); (case k4 => exact Top.nolimit (by assumption)); (case k5 => k_is); (case k6 => k_is); (case k7 => exact Nat.le_of_ble_eq_true rfl); (case k8 => first | ((with_reducible show BindsTo _ _ ⟨[_], []⟩ _); first | exact BindsTo.of_eq (binds := [(_, _)]) rfl | exact binds_K (binds := [(_, _)]) (by k_in) rfl (by k_is) rfl rfl rfl) | ((with_reducible show BindsTo _ _ ⟨[_, _], []⟩ _); first | exact BindsTo.of_eq (binds := [(_, _), (_, _)]) rfl | exact binds_K (binds := [(_, _), (_, _)]) (by k_in) rfl (by k_is) rfl rfl rfl) | ((with_reducible show BindsTo _ _ ⟨[_, _, _], []⟩ _); first | exact BindsTo.of_eq (binds := [(_, _), (_, _), (_, _)]) rfl | exact binds_K (binds := [(_, _), (_, _), (_, _)]) (by k_in) rfl (by k_is) rfl rfl rfl) | ((with_reducible show BindsTo _ _ ⟨[_, _, _, _], []⟩ _); first | exact BindsTo.of_eq (binds := [(_, _), (_, _), (_, _), (_, _)]) rfl | exact binds_K (binds := [(_, _), (_, _), (_, _), (_, _)]) (by k_in) rfl (by k_is) rfl rfl rfl) | ((with_reducible show BindsTo _ _ ⟨[_, _, _, _, _], []⟩ _); first | exact BindsTo.of_eq (binds := [(_, _), (_, _), (_, _), (_, _), (_, _)]) rfl | exact binds_K (binds := [(_, _), (_, _), (_, _), (_, _), (_, _)]) (by k_in) rfl (by k_is) rfl rfl rfl)); (case c5 => decide); (case kB => exact locs rfl); (case c2 => exact rfl); (case c3 => exact rfl); (case c4 => exact rfl); k_whole; intro zqoLp zqLp zqhp zqtkp zqFp zqNp zql1 zqn1; (try k_lt zql1); (try (replace zqn1 := allNe_of zqn1; simp only [AllNe, and_true] at zqn1)); (try dsimp only); walk_at "mine texts")))
  k_with "call builtin:str.join" => ((k_here; (with_reducible show wpAny _ _ (call (Value.builtin "str.join") [Value.str _ _, Value.ref _]) _ _ _); k_dflt (refine join_listC (by is_list) (by repeat constructor) (by decide) (by (simp only [List.map_cons, List.map_nil, List.sum_cons, List.sum_nil, List.length_cons, List.length_nil]; omega)) ?_); intro zqtp zqkp))
  k_with "getMethod type:Exception" => ((k_here; refine' method_type ?F ?X ?m (by decide +kernel) ?e ?h ?_; (case F => k_asm); (case X => k_asm); (case m => exact meta_Exception); (case e => k_dflt k_is); (case h => k_handed)))
  k_with "compareOp IsNot" => ((k_here; k_dflt (refine isNot_none (by assumption) ?_)))
  k_with "call builtin:str.format" => ((k_here; k_dflt (refine' line_use ?k1 ?k2 ?k3 ?k4 ?k5 ?k6 ?k7 ?_; (case k1 => assumption); (case k2 => k_asm); (case k3 => k_asm); (case k4 => exact rfl); (case k5 => exact rfl); (case k6 => exact Nat.le_of_ble_eq_true rfl); (case k7 => exact Nat.le_of_ble_eq_true rfl); k_whole; intro zqhp zqup zqtkp zqFp zqNp)))
  k_with "call builtin:str.format" => ((k_here; (with_reducible show wpAny _ _ (call (Value.builtin "str.format") [Value.str _ _, _, _, _, _]) _ _ _); k_dflt (refine' fmt_use ?k1 ?k2 ?k3 ?k4 ?k5 ?_; (case k1 => k_asm); (case k2 => k_asm); (case k3 => exact ⟨rfl, rfl, Nat.le_of_ble_eq_true rfl, Nat.le_of_ble_eq_true rfl⟩); (case k4 => exact args_5 _ _ _ _ _); (case k5 => walk_at "mine fmt")); k_whole; intro zqhp zqup zqtkp zqFp zqNp))
  k_with "pyReprObj" => ((k_here; k_dflt (refine' reprObj_use ?k1 ?k2 ?k3 ?k4 ?k5 ?k6 ?k7 ?_; (case k1 => assumption); (case k2 => k_asm); (case k3 => k_asm); (case k4 => exact rfl); (case k5 => exact rfl); (case k6 => exact Nat.le_of_ble_eq_true rfl); (case k7 => exact Nat.le_of_ble_eq_true rfl); k_whole; intro zqhp zqup zqtkp zqFp zqNp)))
  trivial
def Stop7 (P : Prop) : Prop := P
theorem stop7 {P : Prop} (h : Stop7 P) : P := h
def Go7 : Prop := True
def Wide7 : Prop := True
theorem lay5 : True := by
  k_with "exec For Name Call cons nil" => ((k_here; (rename Fr _ _ _ _ => lF'); (with_unfolding_all refine' For_invVF lF' ?k1 ?k2 ?_; (case k1 => exact rfl); (case k2 => exact rfl); k_whole)))
  k_with "exec For Name Subscript cons nil" => ((k_here; (rename Fr _ _ _ _ => lF'); (with_unfolding_all refine' For_invVF lF' ?k1 ?k2 ?_; (case k1 => exact rfl); (case k2 => exact rfl); k_whole)))
  k_with "pyIter ref" => (((with_reducible refine stop7 ?_)))
  k_with "call ref" => ((k_here; (with_reducible refine stop7 ?_)))
  k_with "eval IfExp" => ((k_here; (fail_if_success (with_reducible rename Wide7 => hv)); (with_reducible refine stop7 ?_)))
  k_with "subscriptTail Name BinOp ref int" => ((k_here; (with_reducible rename Go7 => hgo); (with_reducible refine stop7 ?_)))
  k_with "subscriptTail" => ((k_here; (with_reducible rename Go7 => hgo); (with_reducible refine stop7 ?_)))
  k_with "call builtin:list.append" => ((k_here; (with_reducible refine stop7 ?_)))
  k_with "call builtin:list.clear" => ((k_here; (with_reducible refine stop7 ?_)))
  k_with "call builtin:len" => ((k_here; (with_reducible rename Go7 => hgo); (with_reducible refine stop7 ?_)))
  k_with "eval ListComp" => ((k_here; k_dflt (refine LCt.ListComp_T (F₀ := by k_asm) (by with_unfolding_all rfl) (by decide) (by rfl) (by decide) (by rfl) ?_)))
  k_with "CompSrcT" => ((with_reducible refine stop7 ?_))
  k_with "compareOp Eq ref ref" => ((k_here; (with_reducible refine stop7 ?_)))
  trivial
theorem foo : PySem.Challenge.rw_dm0028_07.Holds := by
  w_top off
  refine hz (by
    w_strict (
    k_fill
    intro w s₀ s₁ mg mb G y fa o pm cd doc dV kV ho hd hcd hD hmg hg args vals as L hpre hlay hrd hwl hlo
    have KX : (hz.heap_193 w.params).In _ := InK.keeps _ _ _ (z_facts (fun _ => by kernel_rfl) y).2.1 (Laid.keeps L)
    clear y
    k_behind G ho hd hcd hD hmg hpre hlay hrd hwl hlo cd
    (all_goals try k_fold)
    k_steps
    unfold Stop7
    with_reducible rename IsRange _ _ _ _ _ _ _ _ => hRg
    with_reducible rename Fr _ _ _ _ => lF
    with_reducible rename News _ _ _ _ => lN
    dsimp only at lN lF ⊢
    refine loopR7 (n := 7) [] rfl hRg (by decide +kernel) (by decide +kernel) (by decide +kernel) lF (start7 lN) ⟨⟨[], [], 0, rfl, .nil, Nat.zero_le _, fun y hy => nomatch hy⟩, ⟨_, [1], 0, rfl, .cons _ _ .nil, by decide, by decide⟩, ⟨_, [2, -3], 0, rfl, .cons _ _ (.cons _ _ .nil), by decide, by decide⟩, .tail _ (.head _), ⟨_, .head _⟩, (fun v hv => nomatch hv), ?zd, ?zo⟩ (fun p hp => nomatch hp) ?zturn ?zdone
    case zd => exact ⟨Nat.ne_of_lt (by omega), Nat.ne_of_lt (by omega), Nat.ne_of_lt (by omega), Nat.ne_of_lt (by omega), Nat.ne_of_lt (by omega), Nat.ne_of_lt (by omega)⟩
    case zo =>
      intro p hp
      simp only [List.mem_cons, List.not_mem_nil, or_false] at hp
      rcases hp with rfl | rfl <;> dsimp only
      · exact ⟨Nat.ne_of_gt (by omega), Nat.ne_of_gt (by omega), Nat.ne_of_gt (by omega), Nat.ne_of_lt (by omega)⟩
      · exact ⟨Nat.ne_of_gt (by omega), Nat.ne_of_gt (by omega), Nat.ne_of_gt (by omega), Nat.ne_of_lt (by omega)⟩
    case zturn =>
      intro i t u h1 tk1 rest own a0 a1 a2 rows kn hi hrl hS hoff F1 N1 Qt hQt
      clear lF lN
      obtain ⟨un, hnm⟩ := hS.mn
      have hnm2 := List.mem_append_left own hnm
      replace N1 := news_cons7 N1 (.tail _ (.tail _ (.tail _ (.tail _ hnm2))))
      dsimp only at F1 N1 hQt
      k_steps
      unfold Stop7
      with_reducible rename Fr _ _ _ _ => F2
      with_reducible rename News _ _ _ _ => N2
      refine join7 hS F2 N2 ?j1 ?j2
      case j1 =>
        intro Qj hQj
        have hv : Wide7 := trivial
        k_steps
        · with_reducible rename Fr _ _ _ _ => F3
          with_reducible rename News _ _ _ _ => N3
          exact hQj _ _ _ _ _ _ _ F3 N3 (.inl rfl) (.inr (.inl rfl)) (.inr (.inr (.inl rfl)))
        · with_reducible rename Fr _ _ _ _ => F3
          with_reducible rename News _ _ _ _ => N3
          exact hQj _ _ _ _ _ _ _ F3 (drop2 N3) (.inr (.inr (.inr (.inl rfl)))) (.inr (.inr (.inr (.inr ⟨_, rfl⟩)))) (.inl rfl)
      case j2 =>
        intro h3 tk3 D3 n3 x3 y3 z3 F3 N3 fx fy fz
        clear F2 N2
        dsimp only
        k_steps
        unfold Stop7
        with_reducible rename Fr _ _ _ _ => F4
        with_reducible rename News _ _ _ _ => N4
        have hmt := List.mem_append_left own hS.mt
        have hfv := fun v => five_at (v := v) KX N4 (.tail _ (.tail _ (.head _))) (.tail _ (.tail _ (.tail _ (.head _)))) (.tail _ (.tail _ (.tail _ (.tail _ (.head _))))) (.tail _ (.tail _ (.tail _ (.tail _ (.tail _ (.tail _ hmt)))))) hS.k0 hS.k1 hS.k2
        obtain ⟨da, xa⟩ := hfv _ fx
        obtain ⟨db, xb⟩ := hfv _ fy
        obtain ⟨dc, xc⟩ := hfv _ fz
        clear hfv
        refine made_use (mod6 _).1 (mod6 _).2 F4 (KX.keeps F4.keep) (Top.keeps (by assumption) F4.keep) N4 xa xb xc rfl rfl (Nat.le_of_ble_eq_true rfl) (Nat.le_of_ble_eq_true rfl) ?_
        intro h5 tk5 e5 d5 t5 od5 u5 g5 F5 N5 na5 nb5 nc5 hm5 hf5
        clear F4 N4
        dsimp only
        k_steps
        unfold Stop7
        with_reducible rename Fr _ _ _ _ => F6
        with_reducible rename News _ _ _ _ => N6
        refine words_use (mod6 _).1 (mod6 _).2 F6 (KX.keeps F6.keep) (Top.keeps (by assumption) F6.keep) N6 (xa.mono g5) (xb.mono g5) (xc.mono g5) rfl rfl (Nat.le_of_ble_eq_true rfl) (Nat.le_of_ble_eq_true rfl) ?_
        intro h7 tk7 u7 F7 N7
        clear F6 N6
        dsimp only
        k_steps
        unfold Stop7
        with_reducible rename Fr _ _ _ _ => F8
        with_reducible rename News _ _ _ _ => N8
        rename _ ∧ _ ∧ _ ∧ _ ∧ _ ∧ _ ∧ _ ∧ _ ∧ _ ∧ AllLt _ (rest ++ own) => hr8
        refine put7 (led := rest ++ own) F8 N8 (.head _) (.tail _ (.head _)) (.tail _ (.tail _ (.head _))) (.tail _ (.tail _ (.tail _ (.head _)))) (.tail _ (.tail _ (.tail _ (.tail _ (.tail _ (.tail _ (.head _))))))) (.tail _ (.tail _ (.tail _ (.tail _ (.tail _ (.tail _ (.tail _ (.head _)))))))) (.tail _ (.tail _ (.tail _ (.tail _ (.tail _ (.tail _ (.tail _ (.tail _ (.head _))))))))) (.tail _ (.tail _ (.tail _ (.tail _ (.tail _ (.tail _ (.tail _ (.tail _ (.tail _ (.head _)))))))))) (fun p hp => .tail _ (.tail _ (.tail _ (.tail _ (.tail _ (.tail _ (.tail _ (.tail _ (.tail _ (.tail _ (hp))))))))))) hS.d ⟨Nat.ne_of_gt hr8.2.2.2.2.2.1, Nat.ne_of_gt hr8.2.2.2.2.2.2.1, Nat.ne_of_gt hr8.2.2.2.2.2.2.2.1, Nat.ne_of_gt hr8.2.2.2.2.2.2.2.2.1, fun q hq => Nat.ne_of_lt (lt_all hr8.2.2.2.2.2.2.2.2.2 q hq)⟩ (fresh7 (ne_all na5) (.tail _ (.tail _ (.head _))) (.tail _ (.tail _ (.tail _ (.head _)))) (.tail _ (.tail _ (.tail _ (.tail _ (.head _))))) (.tail _ (.tail _ (.tail _ (.tail _ (.tail _ (.head _)))))) (fun p hp => .tail _ (.tail _ (.tail _ (.tail _ (.tail _ (.tail _ (hp)))))))) (fresh7 (ne_all nb5) (.tail _ (.tail _ (.head _))) (.tail _ (.tail _ (.tail _ (.head _)))) (.tail _ (.tail _ (.tail _ (.tail _ (.head _))))) (.tail _ (.tail _ (.tail _ (.tail _ (.tail _ (.head _)))))) (fun p hp => .tail _ (.tail _ (.tail _ (.tail _ (.tail _ (.tail _ (hp)))))))) (fresh7 (ne_all nc5) (.tail _ (.tail _ (.head _))) (.tail _ (.tail _ (.tail _ (.head _)))) (.tail _ (.tail _ (.tail _ (.tail _ (.head _))))) (.tail _ (.tail _ (.tail _ (.tail _ (.tail _ (.head _)))))) (fun p hp => .tail _ (.tail _ (.tail _ (.tail _ (.tail _ (.tail _ (hp)))))))) hoff (Nat.le_trans hrl (Nat.le_of_ble_eq_true rfl)) ?_
        intro h9 F9 N9 hn9
        clear F8 N8
        k_steps
        with_reducible rename Fr _ _ _ _ => Fe
        with_reducible rename News _ _ _ _ => Ne7
        exact hQt _ _ _ _ _ _ _ _ [_, _, _, _] Fe (fun z zs => by
            have hns : z ∉ stored7 := by
              intro h
              rw [List.contains_iff_mem.mpr h] at zs
              cases zs
            simp only [stored7, List.mem_cons, List.not_mem_nil, or_false, not_or] at hns
            obtain ⟨y1, y2, y3, y4, y5, y6, y7, y8⟩ := hns
            simp only [if_neg y1, if_neg y2, if_neg y3, if_neg y4, zs]
            rfl) Ne7 hS.k0 hS.k1 hS.k2 ((hS.rows.sub fun p hp => List.mem_append_right _ hp).snoc ⟨e5, _, _, x3, y3, z3, _, _, _, .head _, (mod6 _).1, (mod6 _).2, fx, fy, fz, msg7_short xa.short xb.short xc.short, d5, t5, od5, u5, .tail _ (.head _), .tail _ (.tail _ (.head _)), .tail _ (.tail _ (.tail _ (.head _))), hm5, hf5⟩) hn9 (by rw [List.length_append]; exact Nat.le_refl _)
    case zdone =>
      intro m2 h2 tk2 rest a0 a1 a2 rows kn hrl hS _ F1 N1
      clear lF lN
      dsimp only at F1 N1 ⊢
      k_steps
      unfold Stop7
      with_reducible rename IntsAre _ (List.take 40 _) => hI
      with_reducible rename Fr _ _ _ _ => lF2
      with_reducible rename News _ _ _ _ => lN2
      rename _ ∧ _ ∧ _ ∧ _ ∧ AllLt _ rest => hl40
      refine loop7 7 rfl hI (by rw [List.length_take]; omega) (by decide +kernel) lF2 (rot5 lN2) (hS.cons ⟨Nat.ne_of_gt hl40.1, Nat.ne_of_gt hl40.2.1, Nat.ne_of_gt hl40.2.2.1, Nat.ne_of_gt hl40.2.2.2.1⟩) (Nat.le_trans hrl (Nat.le_of_ble_eq_true rfl)) (.head _) ?zturn2 ?zdone2
      case zdone2 =>
        clear hS hrl hI
        intro m3 h3 tk3 rest3 b0 b1 b2 rows3 kn3 hrl hS F3 N3
        clear lF2 lN2
        dsimp only at F3 N3 ⊢
        k_steps
        unfold Stop7
        with_reducible rename Fr _ _ _ _ => F4
        with_reducible rename News _ _ _ _ => N4
        refine LCt.CompSrcT.ledger (by rfl) F4 N4 (.tail _ (.tail _ (.tail _ (.head _)))) (by rw [sizeLine_eq, List.size_toArray]; omega) ?_
        intro g4
        refine comp_none7 (.inr ⟨_, .tail _ (.tail _ (.tail _ (.head _))), rfl, _, rfl⟩) ?zel ?zfin
        case zel =>
          intro i v I oI C oC D m4 hh tkk E' hi hC' hx' F' N' Qc hQc
          clear F4 N4
          obtain ⟨r7, rfl, hr7⟩ := hS.rows v (List.mem_of_getElem? (by simpa using hi))
          k_steps
          unfold Stop7
          with_reducible rename Fr _ _ _ _ => F5
          with_reducible rename News _ _ _ _ => N5
          refine right_use F5 KX (Top.keeps (by assumption) F5.keep) N5 (led := (_, b0) :: (_, b1) :: (_, b2) :: (_, _) :: rest3) (fun p hp => .tail _ (.tail _ (.tail _ hp))) (.head _) (.tail _ (.head _)) (.tail _ (.tail _ (.head _))) (.tail _ (.tail _ (.tail _ (.tail _ hS.mt)))) hS.k0 hS.k1 hS.k2 (hr7.sub fun p hp => .tail _ (.tail _ (.tail _ (.tail _ hp)))) rfl rfl (Nat.le_of_ble_eq_true rfl) (Nat.le_of_ble_eq_true rfl) ?_
          intro h6 tk6 F6 N6
          clear F5 N5
          dsimp only
          k_steps
          exact hQc _ _ F6 N6
        case zfin =>
          intro D5 h5 tk5 F5 N5 off5
          clear F4 N4
          dsimp only
          k_steps
          unfold Stop7
          with_reducible rename Fr _ _ _ _ => F6
          with_reducible rename News _ _ _ _ => N6
          refine eq_nil7 (n1 := 0) (n2 := 0) N6 (.tail _ (.head _)) (.head _) (by ke_room) ?_
          k_steps
      case zturn2 =>
        clear hS hrl hI
        intro x t u h3 tk3 rest3 own b0 b1 b2 rows3 kn3 hrl hS hoff F1 N1 Qt hQt
        clear lF2 lN2
        obtain ⟨un, hnm⟩ := hS.mn
        have hnm2 := List.mem_append_left own hnm
        replace N1 := news_cons7 N1 (.tail _ (.tail _ (.tail _ (.tail _ hnm2))))
        dsimp only at F1 N1 hQt ⊢
        k_steps
        unfold Stop7
        with_reducible rename Fr _ _ _ _ => F2
        with_reducible rename News _ _ _ _ => N2
        dsimp only at F2 N2 ⊢
        obtain ⟨r0, s0⟩ := divs7 x
        generalize (if x < 0 then -x else x).fdiv 9 = rho at F2 r0 ⊢
        generalize (if x < 0 then -x else x).fmod 9 = sig at F2 s0 ⊢
        refine joinN7 F2 (fun p hp => N2 p (.tail _ hp)) ?j3 ?j4
        case j3 =>
          intro Qj hQj
          have hv : Wide7 := trivial
          k_steps
          · with_reducible rename Fr _ _ _ _ => F3
            with_reducible rename News _ _ _ _ => N3
            exact hQj _ _ _ _ F3 (fun p hp => N3 p (.tail _ hp)) (small7 r0).1
          · with_reducible rename Fr _ _ _ _ => F3
            with_reducible rename News _ _ _ _ => N3
            exact hQj _ _ _ _ F3 (fun p hp => N3 p (.tail _ hp)) (small7 r0).2
        case j4 =>
          intro h4 tk4 xn xu F4 N4 hxn
          clear F2 N2
          dsimp only at F4 N4 ⊢
          have hgo : Go7 := trivial
          k_steps
          · unfold Stop7
            with_reducible rename Fr _ _ _ _ => F5
            with_reducible rename News _ _ _ _ => N5
            rename sig < 6 => s6
            refine item_five N5 (.head _) (mod5 _).1 (mod5 _).2 ?_
            intro x3 fx
            k_steps
            unfold Stop7
            with_reducible rename News _ _ _ _ => N6
            refine item_five N6 (.head _) (mod5 _).1 (mod5 _).2 ?_
            intro y3 fy
            k_steps
            unfold Stop7
            with_reducible rename News _ _ _ _ => N7
            refine item_five N7 (.head _) (mod5 _).1 (mod5 _).2 ?_
            intro z3 fz
            with_reducible rename Go7 => hgx
            clear hgx
            k_steps
            unfold Stop7
            with_reducible rename Fr _ _ _ _ => F8x
            with_reducible rename News _ _ _ _ => N8x
            have hmt := List.mem_append_left own hS.mt
            have hfv := fun v => five_at (v := v) KX N8x (.tail _ (.tail _ (.head _))) (.tail _ (.tail _ (.tail _ (.head _)))) (.tail _ (.tail _ (.tail _ (.tail _ (.head _))))) (.tail _ (.tail _ (.tail _ (.tail _ (.tail _ (.tail _ hmt)))))) hS.k0 hS.k1 hS.k2
            obtain ⟨da, xa⟩ := hfv _ fx
            obtain ⟨db, xb⟩ := hfv _ fy
            obtain ⟨dc, xc⟩ := hfv _ fz
            clear hfv
            refine made_use s0 s6 F8x (KX.keeps F8x.keep) (Top.keeps (by assumption) F8x.keep) N8x xa xb xc rfl rfl (Nat.le_of_ble_eq_true rfl) (Nat.le_of_ble_eq_true rfl) ?_
            intro h5 tk5 e5 d5 t5 od5 u5 g5 F5 N5 na5 nb5 nc5 hm5 hf5
            clear F8x N8x
            dsimp only
            k_steps
            unfold Stop7
            with_reducible rename Fr _ _ _ _ => F6
            with_reducible rename News _ _ _ _ => N6
            refine words_use s0 s6 F6 (KX.keeps F6.keep) (Top.keeps (by assumption) F6.keep) N6 (xa.mono g5) (xb.mono g5) (xc.mono g5) rfl rfl (Nat.le_of_ble_eq_true rfl) (Nat.le_of_ble_eq_true rfl) ?_
            intro h7 tk7 u7 F7 N7
            clear F6 N6
            dsimp only
            k_steps
            unfold Stop7
            with_reducible rename Fr _ _ _ _ => F8
            with_reducible rename News _ _ _ _ => N8
            rename _ ∧ _ ∧ _ ∧ _ ∧ _ ∧ _ ∧ _ ∧ _ ∧ _ ∧ AllLt _ (rest3 ++ own) => hr8
            refine put7 (led := rest3 ++ own) F8 N8 (.head _) (.tail _ (.head _)) (.tail _ (.tail _ (.head _))) (.tail _ (.tail _ (.tail _ (.head _)))) (.tail _ (.tail _ (.tail _ (.tail _ (.tail _ (.tail _ (.head _))))))) (.tail _ (.tail _ (.tail _ (.tail _ (.tail _ (.tail _ (.tail _ (.head _)))))))) (.tail _ (.tail _ (.tail _ (.tail _ (.tail _ (.tail _ (.tail _ (.tail _ (.head _))))))))) (.tail _ (.tail _ (.tail _ (.tail _ (.tail _ (.tail _ (.tail _ (.tail _ (.tail _ (.head _)))))))))) (fun p hp => .tail _ (.tail _ (.tail _ (.tail _ (.tail _ (.tail _ (.tail _ (.tail _ (.tail _ (.tail _ (hp))))))))))) hS.d ⟨Nat.ne_of_gt hr8.2.2.2.2.2.1, Nat.ne_of_gt hr8.2.2.2.2.2.2.1, Nat.ne_of_gt hr8.2.2.2.2.2.2.2.1, Nat.ne_of_gt hr8.2.2.2.2.2.2.2.2.1, fun q hq => Nat.ne_of_lt (lt_all hr8.2.2.2.2.2.2.2.2.2 q hq)⟩ (fresh7 (ne_all na5) (.tail _ (.tail _ (.head _))) (.tail _ (.tail _ (.tail _ (.head _)))) (.tail _ (.tail _ (.tail _ (.tail _ (.head _))))) (.tail _ (.tail _ (.tail _ (.tail _ (.tail _ (.head _)))))) (fun p hp => .tail _ (.tail _ (.tail _ (.tail _ (.tail _ (.tail _ (hp)))))))) (fresh7 (ne_all nb5) (.tail _ (.tail _ (.head _))) (.tail _ (.tail _ (.tail _ (.head _)))) (.tail _ (.tail _ (.tail _ (.tail _ (.head _))))) (.tail _ (.tail _ (.tail _ (.tail _ (.tail _ (.head _)))))) (fun p hp => .tail _ (.tail _ (.tail _ (.tail _ (.tail _ (.tail _ (hp)))))))) (fresh7 (ne_all nc5) (.tail _ (.tail _ (.head _))) (.tail _ (.tail _ (.tail _ (.head _)))) (.tail _ (.tail _ (.tail _ (.tail _ (.head _))))) (.tail _ (.tail _ (.tail _ (.tail _ (.tail _ (.head _)))))) (fun p hp => .tail _ (.tail _ (.tail _ (.tail _ (.tail _ (.tail _ (hp)))))))) hoff (Nat.le_trans hrl (Nat.le_of_ble_eq_true rfl)) ?_
            intro h9 F9 N9 hn9
            clear F8 N8
            k_steps
            with_reducible rename Fr _ _ _ _ => Fe
            with_reducible rename News _ _ _ _ => Ne7
            exact hQt _ _ _ _ _ _ _ _ [_, _, _, _] Fe (fun z zs => by
                have hns : z ∉ stored7 := by
                  intro h
                  rw [List.contains_iff_mem.mpr h] at zs
                  cases zs
                simp only [stored7, List.mem_cons, List.not_mem_nil, or_false, not_or] at hns
                obtain ⟨y1, y2, y3, y4, y5, y6, y7, y8⟩ := hns
                simp only [if_neg y2, if_neg y3, if_neg y4, if_neg y5, if_neg y6, if_neg y7, if_neg y8, zs]
                rfl) Ne7 hS.k0 hS.k1 hS.k2 ((hS.rows.sub fun p hp => List.mem_append_right _ hp).snoc ⟨e5, _, _, x3, y3, z3, _, _, _, .head _, s0, s6, fx, fy, fz, msg7_short xa.short xb.short xc.short, d5, t5, od5, u5, .tail _ (.head _), .tail _ (.tail _ (.head _)), .tail _ (.tail _ (.tail _ (.head _))), hm5, hf5⟩) hn9 (by rw [List.length_append]; exact Nat.le_refl _)
          · unfold Stop7
            with_reducible rename News _ _ _ _ => N5
            obtain ⟨pk, r, us, ns, n', epk, N1, hr, hi, hf, hlen, back⟩ := three7 (k := Int.fmod rho 3) N5 (off7 hS hoff) hS.d.1 hS.d.2.1 hS.d.2.2.1 hS.k0 hS.k1 hS.k2
            clear N5
            refine item_pick epk N1 (.head _) (mod3 _) ?_
            k_steps
            unfold Stop7
            refine len_list7 N1 (.tail _ (.head _)) (by have := hf.1; omega) ?_
            intro u9 tk9
            k_steps
            · unfold Stop7
              rename (us.length : Int) < 5 => h5
              with_reducible rename News _ _ _ _ => N6
              refine item_pick epk N6 (.head _) (mod3 _) ?_
              k_steps
              unfold Stop7
              with_reducible rename Fr _ _ _ _ => F8
              with_reducible rename News _ _ _ _ => N8
              refine app_led7 F8 (fun p hp => N8 p (.tail _ hp)) hr (by have := hf.1; omega) ?_
              intro h9 F9 N9
              obtain ⟨a0, a1, a2, b0, b1, b2, N10⟩ := back h9 _ _ _ (IntsAre.append hi (.cons xn xu .nil)) (few_snoc hf hlen h5 hxn) N9
              clear N8 N9 F8
              k_steps
              with_reducible rename Fr _ _ _ _ => Fe
              exact hQt _ _ _ _ _ _ _ _ [] Fe (fun z zs => by
                have hns : z ∉ stored7 := by
                  intro h
                  rw [List.contains_iff_mem.mpr h] at zs
                  cases zs
                simp only [stored7, List.mem_cons, List.not_mem_nil, or_false, not_or] at hns
                obtain ⟨y1, y2, y3, y4, y5, y6, y7, y8⟩ := hns
                simp only [if_neg y5, if_neg y6, if_neg y7, if_neg y8, zs]
                rfl) N10 b0 b1 b2 hS.rows (fun p hp => nomatch hp) (Nat.le_succ _)
            · unfold Stop7
              with_reducible rename News _ _ _ _ => N6
              refine item_pick epk N6 (.head _) (mod3 _) ?_
              k_steps
              unfold Stop7
              with_reducible rename Fr _ _ _ _ => F8
              with_reducible rename News _ _ _ _ => N8
              refine clear_led7 F8 (fun p hp => N8 p (.tail _ hp)) hr (by have := hf.1; omega) ?_
              intro h9 n9 F9 N9
              obtain ⟨a0, a1, a2, b0, b1, b2, N10⟩ := back h9 [] [] n9 .nil few_nil N9
              clear N8 N9 F8
              k_steps
              with_reducible rename Fr _ _ _ _ => Fe
              exact hQt _ _ _ _ _ _ _ _ [] Fe (fun z zs => by
                have hns : z ∉ stored7 := by
                  intro h
                  rw [List.contains_iff_mem.mpr h] at zs
                  cases zs
                simp only [stored7, List.mem_cons, List.not_mem_nil, or_false, not_or] at hns
                obtain ⟨y1, y2, y3, y4, y5, y6, y7, y8⟩ := hns
                simp only [if_neg y5, if_neg y6, if_neg y7, if_neg y8, zs]
                rfl) N10 b0 b1 b2 hS.rows (fun p hp => nomatch hp) (Nat.le_succ _)
          · unfold Stop7
            with_reducible rename News _ _ _ _ => N5
            obtain ⟨pk, r, us, ns, n', epk, N1, hr, hi, hf, hlen, back⟩ := three7 (k := Int.fmod rho 3) N5 (off7 hS hoff) hS.d.1 hS.d.2.1 hS.d.2.2.1 hS.k0 hS.k1 hS.k2
            clear N5
            refine item_pick epk N1 (.head _) (mod3 _) ?_
            k_steps
            unfold Stop7
            with_reducible rename Fr _ _ _ _ => F8
            with_reducible rename News _ _ _ _ => N8
            refine clear_led7 F8 (fun p hp => N8 p (.tail _ hp)) hr (by have := hf.1; omega) ?_
            intro h9 n9 F9 N9
            obtain ⟨a0, a1, a2, b0, b1, b2, N10⟩ := back h9 [] [] n9 .nil few_nil N9
            clear N8 N9 F8
            k_steps
            with_reducible rename Fr _ _ _ _ => Fe
            exact hQt _ _ _ _ _ _ _ _ [] Fe (fun z zs => by
              have hns : z ∉ stored7 := by
                intro h
                rw [List.contains_iff_mem.mpr h] at zs
                cases zs
              simp only [stored7, List.mem_cons, List.not_mem_nil, or_false, not_or] at hns
              obtain ⟨y1, y2, y3, y4, y5, y6, y7, y8⟩ := hns
              simp only [if_neg y5, if_neg y6, if_neg y7, if_neg y8, zs]
              rfl) N10 b0 b1 b2 hS.rows (fun p hp => nomatch hp) (Nat.le_succ _)
))
end
end Mine
end
theorem PySem.Challenge.cw_dm0028_07_holds : PySem.Challenge.rw_dm0028_07.Holds :=
  Mine.foo
