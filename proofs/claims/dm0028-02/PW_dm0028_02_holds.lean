import PyProof.Rows.All
import Wide.All
import OpenK.AllK
import Wide.FinOn
import PySem.Challenge.RW_dm0028_02
set_option Elab.async false
section
namespace Mine
section
variable {a b : Nat} {y : Prop}
theorem qlt (h : a < b ∧ y) : a ≠ b := Nat.ne_of_lt (h.1)
theorem rlt (h : a < b) : a ≠ b := Nat.ne_of_lt (h)
theorem qgt (h : b < a ∧ y) : a ≠ b := Nat.ne_of_gt (h.1)
theorem rgt (h : b < a) : a ≠ b := Nat.ne_of_gt (h)
theorem qne (h : a ≠ b ∧ y) : a ≠ b := h.1
theorem rne (h : a ≠ b) : a ≠ b := h
theorem qen (h : b ≠ a ∧ y) : a ≠ b := Ne.symm (h.1)
theorem ren (h : b ≠ a) : a ≠ b := Ne.symm (h)
theorem ns1 : a ≠ a + 1 := Nat.ne_of_lt (Nat.lt_succ_self _)
theorem ns2 : a + 1 ≠ a := Nat.ne_of_gt (Nat.lt_succ_self _)
end
end Mine
end
section
open PySem PySem.W PySem.Calls PyProof.Rows
set_option Elab.async false
set_option maxRecDepth 100000
set_option maxHeartbeats 4000000
namespace Mine
section
variable {prog : Program} {w : World} {A : Around} {R : Result → Shared → Prop} {h : Heap} {g : Array GenState} {d : Drawn} {t : Nat} {os : OsState}
variable {nm q : Str} {C N : Addr} {bs bm : List Value} {hdct : Bool} {sn : List Str} {sub : List Value} {ab : Bool} {col : Option Bool} {dd : Option Addr} {k0 k1 k2 k3 k5 : Option Value}

abbrev excObj (C : Addr) (d : Option Addr) (t : Addr) : Obj := ⟨.ref C, d, .fields #[.ref t, .none, .none, .none, .bool false, .none], #[]⟩
abbrev tupObj (vs : List Value) : Obj := { cls := .type "tuple", data := .seq vs.toArray }

theorem exc_new {rest : List Value} {kw : List (Str × Value)} (hC : h.get? C = some (excClassObj nm q C N bs bm hdct sn sub ab col dd k0 k1 k2 k3 k5 "Exception.__new__"))
    (hcB : (Value.ref C :: bm).contains (.type "Exception") = true) (hcA : (Value.ref C :: bm).contains (.type "AttributeError") = false) (hcN : (Value.ref C :: bm).contains (.type "NameError") = false)
    (hq : R (.ok (.ret (.ref (h.objs.size + 1)))) ⟨(h.push (tupObj rest)).push (excObj C none h.objs.size), g, d, t, os⟩) (hrest : rest.length ≤ sizeLine) :
    codeAny (model prog w) A (.builtin "Exception.__new__" ⟨.ref C :: rest, kw⟩) R ⟨h, g, d, t, os⟩ := by
  have F := PySem.F.excBase_Exception
  have hends := F.ends
  refine codeAny_builtinAt F.entry ?_
  unfold Builtin.«BaseException.__new__»
  refine PySem.wpAt_bind ?_
  show PySem.wpAt _ _ _ (stack >>= _) _ _ _
  refine PySem.wpAt_bind (PySem.wpAt_stack fun p below => PySem.wpAt_of_wpAny ?_)
  wp_walk
  refine PySem.wpAt_of_wpAny ?_
  rw [F.owner]
  repeat (first | with_reducible refine wpAny_madeHere_exc F.canon hC ?_ | with_reducible refine wpAny_loadPart_at hC ?_ | (with_reducible refine wpAny_isSubtype_exc hC ?_; first | rw [hcB] | rw [hcA] | rw [hcN]) | wp_step)
  show R _ _
  rw [Heap.size_push]
  exact hq

theorem exc_check_new {M : Model} {E : Value → Shared → Prop} {rest : List Value} {kw : List (Str × Value)} {Q : Unit → Shared → Prop} (hC : h.get? C = some (excClassObj nm q C N bs bm hdct sn sub ab col dd k0 k1 k2 k3 k5 "Exception.__new__"))
    (hcB : (Value.ref C :: bm).contains (.type "Exception") = true)
    (hq : Q () ⟨h, g, d, t, os⟩) : wpAny M A (checkBuiltinCall "Exception.__new__" ⟨.ref C :: rest, kw⟩) Q E ⟨h, g, d, t, os⟩ := by
  have F := PySem.F.excBase_Exception
  have hstar := F.noStar
  simp only [checkBuiltinCall, F.newKind, F.newSplit, F.newRow]
  repeat (first | refine wpAny_loadPart_at hC ?_ | (refine wpAny_isSubtype_exc hC ?_; rw [hcB]) | refine wpAny_staticBase_exc hC ?_ | refine wpAny_madeBy_exc hC ?_ | simp only [bne_self_eq_false, Bool.false_eq_true, if_false] | wp_step)
  exact hq
end
end Mine
end
section
open PySem PySem.W PySem.Calls PyProof.Rows
set_option Elab.async false
set_option maxRecDepth 100000
set_option maxHeartbeats 4000000
namespace Mine
section
variable {prog : Program} {w : World} {A : Around} {R : Result → Shared → Prop} {h : Heap} {g : Array GenState} {d : Drawn} {t : Nat} {os : OsState}
variable {nm q : Str} {C N : Addr} {bs bm : List Value} {hdct : Bool} {sn : List Str} {sub : List Value} {ab : Bool} {col : Option Bool} {dd : Option Addr} {k0 k1 k2 k3 k5 : Option Value}

theorem exc_make {rest : List Value} {kw : List (Str × Value)} {fI : Addr} (hC : h.get? C = some (excClassObj nm q C N bs bm hdct sn sub ab col dd k0 k1 k2 k3 k5 "Exception.__new__"))
    (hcB : (Value.ref C :: bm).contains (.type "Exception") = true) (hcA : (Value.ref C :: bm).contains (.type "AttributeError") = false) (hcN : (Value.ref C :: bm).contains (.type "NameError") = false)
    (call : Looks (model prog w) h (specialOf (.ref C) "__call__") (some (.builtin "type.__call__"))) (typ : Looks (model prog w) h (isInstance (.ref C) (.type "type")) true)
    (hi : Looks (model prog w) h (typeLookup (.ref C) "__init__") (some (.ref fI))) (hb : ∀ self, Looks (model prog w) h (bindSpecial (.ref fI) self) (.ref fI, [self])) (hrest : rest.length ≤ sizeLine)
    (hq : codeAny (model prog w) (A.under (.builtin "type.__call__" ⟨.ref C :: rest, kw⟩)) (.call (.ref fI) ⟨.ref (h.objs.size + 1) :: rest, kw⟩) (InitBack (h.objs.size + 1) R) ⟨(h.push (tupObj rest)).push (excObj C none h.objs.size), g, d, t, os⟩) :
    codeAny (model prog w) A (.call (.ref C) ⟨rest, kw⟩) R ⟨h, g, d, t, os⟩ := by
  refine codeAny_of_tree ?_
  show wpAny _ _ (callAny (.ref C) _) _ _ _
  refine nd_load hC ?_
  show wpAny _ _ (callAny.viaDunder (.ref C) _) _ _ _
  unfold callAny.viaDunder
  refine wpAny_bind (call.at ?_)
  dsimp only
  rw [tc_bind]
  refine wpAny_bind (wpAny_pure (wpAny_bind (wpAny_pure ?_)))
  refine wpAny_pure (a := Fin.again (.call (.builtin "type.__call__") ⟨.ref C :: rest, kw⟩)) (And.intro rfl ?_)
  refine codeAny_call_builtin_at (Code.quiet_builtin _ (by decide +kernel)) entry_typeCall (check_slot tc_kind tc_split typ (tc_args _ _ _) ?_)
  unfold Builtin.«type.__call__»
  have hm : Looks (model prog w) h (mroOf (.ref C)) (.ref C :: bm) := ((Looks.ld (part := none) hC).andThen .now).andThen .now
  have made : Looks (model prog w) h (Bind.madeBy (.ref C)) (some "Exception.__new__") := by
    intro A Q E s k q
    obtain ⟨hh, g, d, t, os⟩ := s
    exact wpAny_madeBy_exc (k _ _ hC) q
  repeat (first | with_reducible refine wpAny_call ?_ | lk)
  refine codeAny_call_builtin_code (Code.quiet_builtin _ PySem.F.excBase_Exception.quiet) (exc_check_new hC hcB ?_)
  refine exc_new hC hcB hcA hcN ?_ hrest
  have k : ∀ b o, h.get? b = some o → ((h.push (tupObj rest)).push (excObj C none h.objs.size)).get? b = some o := fun b o e => Heap.get?_push_of_some _ (Heap.get?_push_of_some _ e)
  have hx : ((h.push (tupObj rest)).push (excObj C none h.objs.size)).get? (h.objs.size + 1) = some (excObj C none h.objs.size) := by heap_get
  have t1 : Looks (model prog w) ((h.push (tupObj rest)).push (excObj C none h.objs.size)) (typeOf (.ref (h.objs.size + 1))) (.ref C) := (Looks.ld hx).andThen .now
  have s1 : Looks (model prog w) ((h.push (tupObj rest)).push (excObj C none h.objs.size)) (isSubtype (.ref C) (.ref C)) true := by
    intro A Q E s k' q
    obtain ⟨hh, g, d, t, os⟩ := s
    exact wpAny_isSubtype_exc (k' _ _ (k _ _ hC)) (by rw [show (Value.ref C :: bm).contains (.ref C) = true from by simp]; exact q)
  have i1 := hi.keeps k
  have b1 := (hb (.ref (h.objs.size + 1))).keeps k
  unfold isInstance callSpecial? specialOf
  repeat (first | with_reducible refine wpAny_call ?_ | lk)
  refine codeAny_mono hq fun r s' z => ?_
  rcases r with e | (v | _ | _ | _) <;> first | exact z | exact z.elim | skip
  obtain ⟨rfl, z⟩ := z
  exact wpAny_pure (wpAny_pure z)
end
end Mine
end
section
open PySem PySem.W PySem.Calls PyProof.Rows PySem.Builtin PySem.Builtin.ObjectAttr
set_option Elab.async false
set_option maxRecDepth 100000
set_option maxHeartbeats 4000000
namespace Mine
def excTail : List Value → Bool
  | [.type a, .type b, .type c] => a == "Exception" && b == "BaseException" && c == "object"
  | .ref _ :: r => excTail r
  | _ => false
theorem refuse_base (self : Value) : refuseLoop self "__setattr__" [.type "Exception", .type "BaseException", .type "object"] = pure () := by kernel_rfl
theorem excTail_cases {l : List Value} (e : excTail l = true) : (∃ a b c, l = [.type a, .type b, .type c] ∧ a = "Exception" ∧ b = "BaseException" ∧ c = "object") ∨ (∃ a r, l = .ref a :: r ∧ excTail r = true) := by
  unfold excTail at e
  split at e
  · rename_i a b c
    simp only [Bool.and_eq_true, beq_iff_eq] at e
    exact .inl ⟨a, b, c, rfl, e.1.1, e.1.2, e.2⟩
  · rename_i a r; exact .inr ⟨a, r, rfl, e⟩
  · cases e
theorem refuse_exc (self : Value) : ∀ {l : List Value}, excTail l = true → refuseLoop self "__setattr__" l = pure ()
  | l, e => by
    rcases excTail_cases e with ⟨a, b, c, rfl, rfl, rfl, rfl⟩ | ⟨a, r, rfl, e'⟩
    · exact refuse_base self
    · rw [refuseLoop_ref]; exact refuse_exc self e'
termination_by l => l.length
theorem excTail_obj : ∀ {l : List Value}, excTail l = true → l.contains (.type "object") = true
  | l, e => by
    rcases excTail_cases e with ⟨a, b, c, rfl, rfl, rfl, rfl⟩ | ⟨a, r, rfl, e'⟩
    · decide
    · rw [List.contains_cons, excTail_obj e', Bool.or_true]
termination_by l => l.length
def excOver (K : Frag) (C : Addr) : Bool := (clsIn K C).any fun cd => excTail cd.mro

section
variable {prog : Program} {w : World} {A : Around} {K : Frag} {C x : Addr} {s : Shared} {h₀ : Heap} {L : Addr} {m : Str → Option Value} {news : List (Addr × Obj)} {R : Result → Shared → Prop}
theorem exc_osa_open {ox : Obj} {od : Option Obj} {name : Str} {tk : Tok} {v : Value} {r : Option Value} (X : K.In s.heap) (I : InstAt s.heap x ox C od) (hp : excOver K C = true) (ht : takerIn K C name = some r)
    (h : ∀ b, wpAny (model prog w) A.in1 (match r with | some a => setByDescriptor a (.ref x) v | none => storeInOwnDict (.ref x) (.ref C) (.str name tk) name v b)
      (fun fin s' => match fin with | .done f => R (.ok f) s' | .again c' => c'.quiet = true ∧ codeAny (model prog w) A c' R s') (fun e s' => R (.error e) s') s) :
    codeAny (model prog w) A (.call (.builtin "object.__setattr__") ⟨[.ref x, .str name tk, v], []⟩) R s := by
  have SF := PySem.F.store_object
  obtain ⟨cd, hc, ho⟩ := any_some hp
  have ne : cd.mro.isEmpty = false := by cases q : cd.mro with | nil => rw [q] at ho; cases ho | cons _ _ => rfl
  have sub : Looks (model prog w) s.heap (isInstance (.ref x) (.type "object")) true := I.type.andThen (looks_mroIn X (by unfold mroIn; rw [hc, Option.bind_some, if_neg (by rw [ne]; decide), excTail_obj ho]))
  refine codeAny_call_builtin SF.slot.plain SF.entry (@check_slot (model prog w) _ _ s "object.__setattr__" "object" "__setattr__" (.ref x) [.str name tk, v] [] _ SF.kind SF.split sub (SF.args (.ref x) (.str name tk) v) ?_)
  obtain ⟨attr, ha, hr⟩ := Option.bind_eq_some_iff.mp ht
  have hm : Looks (model prog w) s.heap (mroOf (.ref C)) cd.mro := (looks_clsIn X hc).andThen .now
  have L3 : Looks (model prog w) s.heap (storeTaker? attr) r := by
    cases attr with
    | none => cases hr; exact .now
    | some a =>
      obtain ⟨b, hb, rfl⟩ := Option.map_eq_some_iff.mp hr
      refine (looks_takesIn X hb).andThen ?_
      cases b <;> exact .now
  rw [osa_eq, refuse_eq]
  refine wpAny_bind (wpAny_bind (I.type.here (wpAny_bind (hm.here ?_))))
  rw [refuse_exc _ ho]
  refine wpAny_pure (wpAny_bind (I.type.here (wpAny_bind ((looks_findIn X ha).here (wpAny_bind (L3.here ?_))))))
  exact h _
end
end Mine
end
section
open PySem PySem.W PySem.Calls PyProof.Rows PySem.Builtin PySem.Builtin.ObjectAttr
set_option Elab.async false
set_option maxRecDepth 100000
set_option maxHeartbeats 4000000
namespace Mine
section
variable {prog : Program} {w : World} {A : Around} {E : Value → Shared → Prop} {K : Frag} {C x dx ta : Addr} {s : Shared} {h₀ : Heap} {L : Addr} {m : Str → Option Value} {news news' : List (Addr × Obj)} {R : Result → Shared → Prop}
theorem InstAt.of_exc {h : Heap} {od : Obj} (N : News h₀ L h news) (h1 : (x, excObj C (some dx) ta) ∈ news) (h2 : (dx, od) ∈ news) : InstAt h x (excObj C (some dx) ta) C (some od) := ⟨(N _ h1).1, rfl, rfl, (N _ h2).1⟩
theorem InstAt.of_exc0 {h : Heap} (N : News h₀ L h news) (h1 : (x, excObj C none ta) ∈ news) : InstAt h x (excObj C none ta) C none := ⟨(N _ h1).1, rfl, rfl, trivial⟩

/-- the store into an own dict that stands -/
theorem exc_osa_dict {od od' : Obj} {name : Str} {tk : Tok} {v : Value} {pre post : List (Addr × Obj)} {es : List DictEntry} {n : Nat} (F : Fr h₀ L s.heap m) (N : News h₀ L s.heap (pre ++ (dx, od) :: post)) (X : K.In s.heap)
    (I : InstAt s.heap x (excObj C (some dx) ta) C (some od)) (hp : excOver K C = true) (ht : takerIn K C name = some none) (hh : hasDictIn K C = true)
    (hl : (lookIn name od).isSome = true) (h1 : ∀ p ∈ pre, p.1 ≠ dx) (h2 : ∀ p ∈ post, p.1 ≠ dx)
    (e : Obj.putName name (PyData.keyHash w.params name) (.str name s.toks) v od = od') (e' : od'.data = .dict es.toArray n) (hz : es.length ≤ 1000)
    (h : ∀ h', Fr h₀ L h' m → News h₀ L h' (pre ++ (dx, od') :: post) → R (.ok (.ret .none)) { s with heap := h', toks := s.toks + 1 }) :
    codeAny (model prog w) A (.call (.builtin "object.__setattr__") ⟨[.ref x, .str name tk, v], []⟩) R s := by
  refine exc_osa_open X I hp ht fun b => ?_
  obtain ⟨cd, hc, hd'⟩ := any_some hh
  obtain ⟨U1, U2⟩ := news_upd (f := Obj.putName name (PyData.keyHash w.params name) (.str name s.toks) v) F N h1 h2 e (by obtain ⟨_, _, dd, _⟩ := od'; cases e'; rfl)
  have D := (N (dx, od) (by simp)).1
  have D' := (U2 (dx, od') (by simp)).1
  obtain ⟨hx, -, -, -⟩ := I
  refine wpAny_bind (wpAny_pure (wpAny_bind (wpAny_bind (wpAny_loadPart hx (wpAny_bind ((looks_clsIn X hc).here ?_))))))
  rw [hd']
  refine wpAny_pure (a := some dx) (wpAny_bind (wpAny_pure (wpAny_bind ?_)))
  unfold nsSet
  refine wpAny_bind (wpAny_bind (wpAny_askSetting (wpAny_pure (wpAny_bind (wpAny_mkText (wpAny_bind (wpAny_loadPart D ?_)))))))
  unfold lookIn at hl
  split at hl
  · rename_i es₀ n₀ q
    rw [q]
    dsimp only
    have c : (!es₀.any (·.key.isStr name) && es₀.any (·.refKey)) = false := by
      rw [← Array.any_toList, ← Array.any_toList]
      split at hl
      · rename_i en he
        rw [List.any_eq_true.mpr ⟨en, List.mem_of_find?_eq_some he, List.find?_some he⟩]; rfl
      · split at hl
        · cases hl
        · rename_i z; rw [Bool.not_eq_true] at z; rw [z, Bool.and_false]
    rw [aRefKeyMayBeTheName_at, c]
    refine wpAny_updatePart D ?_
    refine wpAny_bind (wpAny_lookBehind D' (by rw [e']; exact pastItsLine_dict (by rw [List.size_toArray, sizeLine_eq]; omega)) ?_)
    exact wpAny_pure (h _ U1 U2)
  · cases hl

theorem exc_set {es es' : List DictEntry} {n n' : Nat} {name : Str} {v : Value} {Q : Unit → Shared → Prop} (F : Fr h₀ L s.heap m) (X₀ : K.In h₀) (N : News h₀ L s.heap news) (I : InstAt s.heap x (excObj C (some dx) ta) C (some (dictOf es n)))
    (hs : findIn K (.ref C) "__setattr__" = some (some (.builtin "object.__setattr__"))) (hp : excOver K C = true) (ht : takerIn K C name = some none) (hh : hasDictIn K C = true) (hl : (getL name es).isSome = true)
    (e : (putL name (PyData.keyHash w.params name) (.str name (s.toks + 1)) v es, putN name es n) = (es', n')) (U : Upd dx (dictOf es n) (dictOf es' n') news news') (hz : es'.length ≤ 1000)
    (h : ∀ h', Fr h₀ L h' m → News h₀ L h' news' → Q () { s with heap := h', toks := s.toks + 2 }) :
    wpAny (model prog w) A (setAttr (.ref x) name v) Q E s := by
  obtain ⟨pre, post, rfl, rfl, a, b⟩ := U.split
  obtain ⟨e1, e2⟩ := Prod.mk.inj e
  exact set_plain (X₀.keeps F.keep) I hs (exc_osa_dict (s := { s with toks := s.toks + 1 }) F N (X₀.keeps F.keep) I hp ht hh hl a b (by rw [putName_dict, e1, e2]) rfl hz fun h' F' N' => h h' F' N')

/-- the first store makes the dict -/
theorem exc_set0 {news' : Addr → List (Addr × Obj)} {name : Str} {v : Value} {Q : Unit → Shared → Prop} (F : Fr h₀ L s.heap m) (X₀ : K.In h₀) (N : News h₀ L s.heap news) (hx : (x, excObj C none ta) ∈ news)
    (hs : findIn K (.ref C) "__setattr__" = some (some (.builtin "object.__setattr__"))) (hp : excOver K C = true) (ht : takerIn K C name = some none) (hh : hasDictIn K C = true)
    (U : ∀ d, Upd x (excObj C none ta) (excObj C (some d) ta) news (news' d))
    (h : ∀ d h', Fr h₀ L h' m → News h₀ L h' ((d, dictOf [⟨PyData.keyHash w.params name, .str name (s.toks + 1), v⟩] 1) :: news' d) → (∀ p ∈ news, p.1 < d) → Q () { s with heap := h', toks := s.toks + 2 }) :
    wpAny (model prog w) A (setAttr (.ref x) name v) Q E s := by
  have I := InstAt.of_exc0 N hx
  have X := X₀.keeps F.keep
  refine set_plain X I hs (exc_osa_open (s := { s with toks := s.toks + 1 }) X I hp ht fun b => ?_)
  obtain ⟨pre, post, e1, e2, a, b⟩ := (U s.heap.objs.size).split
  obtain ⟨cd, hc, hd'⟩ := any_some hh
  have hxx := I.at_
  refine wpAny_bind (wpAny_pure (wpAny_bind (wpAny_bind (wpAny_loadPart hxx (wpAny_bind (looks_clsIn X hc _ _ _ _ (fun _ _ e => e) ?_))))))
  rw [hd']
  have F1 := F.push emptyDict
  have N1 : News h₀ L (s.heap.push emptyDict) ((s.heap.objs.size, emptyDict) :: news) := N.push F emptyDict
  rw [e1] at N1
  have hlt : ∀ p ∈ news, p.1 < s.heap.objs.size := fun p hp => Heap.lt_size (N p hp).1
  have hxn : s.heap.objs.size ≠ x := fun z => absurd (hlt _ hx) (by rw [← z]; exact Nat.lt_irrefl _)
  obtain ⟨U1, U2⟩ := news_upd (pre := (s.heap.objs.size, emptyDict) :: pre) (f := fun o => { o with dict := some s.heap.objs.size }) F1 N1 (fun p hp => by rcases List.mem_cons.mp hp with rfl | hp; exact hxn; exact a p hp) b (o' := excObj C (some s.heap.objs.size) ta) rfl rfl
  refine wpAny_bind (wpAny_alloc (wpAny_bind (wpAny_update (Heap.get?_push_of_some _ hxx) ?_)))
  refine wpAny_pure (a := some s.heap.objs.size) (wpAny_bind (wpAny_pure (wpAny_bind ?_)))
  have D := (U2 (s.heap.objs.size, emptyDict) (by simp)).1
  have he : Obj.putName name (PyData.keyHash w.params name) (.str name (s.toks + 1)) v (dictOf [] 0) = dictOf [⟨PyData.keyHash w.params name, .str name (s.toks + 1), v⟩] 1 := by rw [putName_dict]; rfl
  obtain ⟨V1, V2⟩ := news_upd (pre := []) (d := s.heap.objs.size) (o := dictOf [] 0) (f := Obj.putName name (PyData.keyHash w.params name) (.str name (s.toks + 1)) v) U1 U2 (fun _ hp => nomatch hp)
    (fun p hp => by
      rcases List.mem_append.mp hp with hp | hp
      · exact Nat.ne_of_lt (hlt p (by rw [e1]; exact List.mem_append.mpr (.inl hp)))
      · rcases List.mem_cons.mp hp with rfl | hp
        · exact Ne.symm hxn
        · exact Nat.ne_of_lt (hlt p (by rw [e1]; exact List.mem_append.mpr (.inr (.tail _ hp))))) he rfl
  have D' := (V2 (s.heap.objs.size, dictOf [⟨PyData.keyHash w.params name, .str name (s.toks + 1), v⟩] 1) (.head _)).1
  unfold nsSet
  refine wpAny_bind (wpAny_bind (wpAny_askSetting (wpAny_pure (wpAny_bind (wpAny_mkText (wpAny_bind (wpAny_loadPart D ?_)))))))
  dsimp only
  have c : (!(#[] : Array DictEntry).any (·.key.isStr name) && (#[] : Array DictEntry).any (·.refKey)) = false := by simp
  rw [aRefKeyMayBeTheName_at, c]
  refine wpAny_updatePart D ?_
  refine wpAny_bind (wpAny_lookBehind D' (pastItsLine_dict (by rw [List.size_toArray, sizeLine_eq]; simp)) ?_)
  refine wpAny_pure (h s.heap.objs.size _ V1 ?_ hlt)
  rw [e2]
  exact V2
end
end Mine
end
section
open PySem PySem.W PySem.Calls PyProof.Rows PySem.Builtin PySem.Builtin.ObjectAttr PySem.Builtin.Getset_descriptor
set_option Elab.async false
set_option maxRecDepth 100000
set_option maxHeartbeats 4000000
namespace Mine
theorem entry_gss : entryFor table "getset_descriptor.__set__" = some Builtin.«getset_descriptor.__set__» := entryFor_of_tree (by kernel_rfl)
theorem entry_ba_set : entryFor table "BaseException.args#set" = some Builtin.«BaseException.args#set» := entryFor_of_tree (by kernel_rfl)
theorem args_gss (a b c : Value) : argsOk "getset_descriptor.__set__" ⟨[a, b, c], []⟩ := by unfold argsOk; kernel_rfl
theorem owner_bargs : descrOwnerAndName "BaseException.args" = ("BaseException", "args") := by unfold descrOwnerAndName; rw [show "BaseException.args".cutAt '.' = ["BaseException", "args"] from by first | rfl | decide +kernel]; decide +kernel
section
variable {prog : Program} {w : World} {A : Around} {E : Value → Shared → Prop} {K : Frag} {C x dx ta tv : Addr} {s : Shared} {h₀ : Heap} {L : Addr} {m : Str → Option Value} {news news' : List (Addr × Obj)} {R : Result → Shared → Prop} {d : Option Addr} {news'' : Addr → List (Addr × Obj)}

theorem exc_put {Q : Unit → Shared → Prop} (F : Fr h₀ L s.heap m) (N : News h₀ L s.heap news) (U : Upd x (excObj C d ta) (excObj C d tv) news news')
    (h : ∀ h', Fr h₀ L h' m → News h₀ L h' news' → Q () { s with heap := h' }) : wpAny (model prog w) A (Builtin.BaseException.bexcPut (.ref x) 0 (.ref tv)) Q E s := by
  obtain ⟨pre, post, rfl, rfl, a, b⟩ := U.split
  obtain ⟨U1, U2⟩ := news_upd (f := Obj.mapFields (·.setIfInBounds 0 (.ref tv))) F N a b (o' := excObj C d tv) rfl rfl
  have hx : s.heap.get? x = some (excObj C d ta) := (N (x, excObj C d ta) (by simp)).1
  unfold Builtin.BaseException.bexcPut
  refine wpAny_bind (wpAny_field hx rfl (x := .ref ta) rfl (wpAny_bind (wpAny_setField hx rfl (show 0 < 6 by decide) ?_)))
  exact wpAny_letGo (h _ U1 U2)

theorem exc_set_args {its : Array Value} {od : Option Obj} {Q : Unit → Shared → Prop} (F : Fr h₀ L s.heap m) (X₀ : K.In h₀) (N : News h₀ L s.heap news) (I : InstAt s.heap x (excObj C d ta) C od) (ht : s.heap.IsTuple tv its)
    (hs : findIn K (.ref C) "__setattr__" = some (some (.builtin "object.__setattr__"))) (hp : excOver K C = true) (hk : takerIn K C "args" = some (some (.builtin "BaseException.args"))) (hB : subIn K (.ref C) (.type "BaseException") = some true)
    (U : Upd x (excObj C d ta) (excObj C d tv) news news')
    (h : ∀ h', Fr h₀ L h' m → News h₀ L h' news' → Q () { s with heap := h', toks := s.toks + 1 }) : wpAny (model prog w) A (setAttr (.ref x) "args" (.ref tv)) Q E s := by
  have X := X₀.keeps F.keep
  refine set_plain X I hs (exc_osa_open (s := { s with toks := s.toks + 1 }) X I hp hk fun b => ?_)
  have S := PySem.F.slot_gs_set
  have hty : typeOf (.builtin "BaseException.args") = pure (.type "getset_descriptor") := PySem.F.typeOf_bexc_args
  refine wpAny_bind (wpAny_rule (wpAny_bind (wpAny_holding (wpAny_bind (wpAny_bind ((Looks.of_pure hty) _ _ _ _ (fun _ _ e => e) ((Looks.of_pure S.lookup) _ _ _ _ (fun _ _ e => e) (wpAny_holding ?_))))))))
  rw [S.bind]
  refine wpAny_bind (wpAny_pure (wpAny_bind (wpAny_call ?_)))
  have hT : ({ s with toks := s.toks + 1 } : Shared).TypeIs (.builtin "BaseException.args") "getset_descriptor" := PySem.F.typeOf_bexc_args
  refine codeAny_call_builtin S.plain entry_gss (S.check _ _ _ _ _ _ _ _ hT (args_gss _ _ _) ?_)
  show wpAny _ _ (descrStoreThrough "getset" (.builtin "BaseException.args") (.ref x) (some (.ref tv))) _ _ _
  unfold descrStoreThrough descrCheckInstance descrNameAndClass isInstance
  simp only [owner_bargs]
  refine wpAny_bind (wpAny_bind (wpAny_pure (wpAny_bind (wpAny_bind (I.type _ _ _ _ (fun _ _ e => e) (looks_subIn X hB _ _ _ _ (fun _ _ e => e) ?_))))))
  refine wpAny_pure (wpAny_bind (wpAny_pure ?_))
  refine wpAny_pure (And.intro (Code.quiet_builtin _ (by decide +kernel)) (codeAny_builtin entry_ba_set ?_))
  unfold Builtin.«BaseException.args#set»
  refine wpAny_bind (call_tuple_same (s := { s with toks := s.toks + 1 }) ht (wpAny_bind (exc_put (s := { s with toks := s.toks + 1 }) F N U fun h' F' N' => ?_)))
  exact wpAny_pure (wpAny_pure (wpAny_pure (h h' F' N')))

theorem exc_init_call {v : Value} {od : Option Obj} {Q : Value → Shared → Prop} (F : Fr h₀ L s.heap m) (X₀ : K.In h₀) (N : News h₀ L s.heap news) (I : InstAt s.heap x (excObj C d ta) C od)
    (hE : subIn K (.ref C) (.type "Exception") = some true) 
    (U : ∀ t, Upd x (excObj C d ta) (excObj C d t) news (news'' t))
    (h : ∀ t h', Fr h₀ L h' m → News h₀ L h' ((t, tupObj [v]) :: news'' t) → (∀ p ∈ news, p.1 < t) → Q .none { s with heap := h' }) : wpAny (model prog w) A (call (.builtin "Exception.__init__") [.ref x, v]) Q E s := by
  have X := X₀.keeps F.keep
  have FE := PySem.F.excBase_Exception
  obtain ⟨hh, g, dr, t, os⟩ := s
  refine wpAny_call (codeAny_call_builtin FE.init.plain FE.initEntry ?_)
  have hshort := FE.noStar
  have t1 := I.type (M := model prog w)
  have s1 := looks_subIn (M := model prog w) X hE
  obtain ⟨cd, hcd⟩ : ∃ cd, clsIn K C = some cd := by
    unfold subIn mroIn at hE
    cases q : clsIn K C with
    | none => simp only [q] at hE; cases hE
    | some cd => exact ⟨cd, rfl⟩
  have c1 := looks_clsIn (M := model prog w) X hcd
  simp only [checkBuiltinCall, FE.initKind, FE.initSplit, FE.initRow]
  unfold isInstance
  dsimp only at t1 s1 c1
  repeat lk
  have F1 := F.push (tupObj [v])
  have N1 : News h₀ L (hh.push (tupObj [v])) ((hh.objs.size, tupObj [v]) :: news) := N.push F (tupObj [v])
  have hlt : ∀ p ∈ news, p.1 < hh.objs.size := fun p hp => Heap.lt_size (N p hp).1
  obtain ⟨pre, post, e1, e2, a, b⟩ := (U hh.objs.size).split
  have hx : (hh.push (tupObj [v])).get? x = some (excObj C d ta) := Heap.get?_push_of_some _ I.at_
  have hxn : hh.objs.size ≠ x := fun z => absurd (Heap.lt_size I.at_) (by rw [← z]; exact Nat.lt_irrefl _)
  rw [e1] at N1
  obtain ⟨U1, U2⟩ := news_upd (pre := (hh.objs.size, tupObj [v]) :: pre) (f := Obj.mapFields (·.setIfInBounds 0 (.ref hh.objs.size))) F1 N1 (fun p hp => by rcases List.mem_cons.mp hp with rfl | hp; exact hxn; exact a p hp) b (o' := excObj C d hh.objs.size) rfl rfl
  refine nd_load hx (wpAny_pure (wpAny_pure (wpAny_pure (a := Value.ref ta) (wpAny_bind (wpAny_setField hx rfl (show 0 < 6 by decide) (wpAny_letGo (wpAny_pure ?_)))))))
  refine h hh.objs.size _ U1 ?_ hlt
  rw [e2]
  exact U2
end
end Mine
end
section
open PySem PySem.W PySem.Calls PyProof.Rows PySem.Builtin PySem.Builtin.ObjectAttr PySem.Builtin.Getset_descriptor
set_option Elab.async false
set_option maxRecDepth 100000
set_option maxHeartbeats 4000000
namespace Mine
theorem bga_kind : builtinKind "BaseException.__getattribute__" = some .slot := by decide +kernel
theorem bga_split : splitId "BaseException.__getattribute__" = some ("BaseException", "__getattribute__") := by decide +kernel
theorem bga_plain : plainId "BaseException.__getattribute__" = true := by decide +kernel
theorem bga_bind (self : Value) : bindSpecial (.builtin "BaseException.__getattribute__") self = pure (.builtin "BaseException.__getattribute__", [self]) := PySem.F.excAttr_ValueError.ga.bind self
def excGet (K : Frag) (C : Addr) : Bool := findIn K (.ref C) "__getattribute__" == some (some (.builtin "BaseException.__getattribute__")) && findIn K (.ref C) "__getattr__" == some none && subIn K (.ref C) (.type "BaseException") == some true
section
variable {prog : Program} {w : World} {A : Around} {E : Value → Shared → Prop} {s : Shared} {K : Frag} {x C ta : Addr} {ox : Obj} {od : Option Obj} {name : Str} {expr : Bool} {Q : Value → Shared → Prop}
theorem exc_get_open {r : Found} (X : K.In s.heap) (I : InstAt s.heap x ox C od) (hg : excGet K C = true) (hf : findObj K C od name = some r)
    (h : codeAny (model prog w) A (.call (.builtin "BaseException.__getattribute__") ⟨[.ref x, .str name s.toks], []⟩) (fun r s' => match r with | .ok (.ret v) => wpAny (model prog w) A (handedOut v) Q E s' | _ => False) { s with toks := s.toks + 1 }) :
    wpAny (model prog w) A (getAttr (.ref x) name expr) Q E s := by
  simp only [excGet, Bool.and_eq_true, beq_iff_eq] at hg
  obtain ⟨⟨h1, h2⟩, h3⟩ := hg
  obtain ⟨hh, g, d, t, os⟩ := s
  have L0 := I.type (M := model prog w)
  have L1 := looks_findIn (M := model prog w) X h1
  have L2 := looks_findIn (M := model prog w) X h2
  unfold getAttr getAttrBy
  refine wpAny_bind (wpAny_mkText (wpAny_holding (wpAny_bind (L0.at (wpAny_bind (L1.at ?_))))))
  dsimp only
  rw [show (onTheHeap (Value.ref C) && Value.builtin "BaseException.__getattribute__" == Value.builtin "object.__getattribute__") = false from by rw [show (Value.builtin "BaseException.__getattribute__" == Value.builtin "object.__getattribute__") = false from by decide +kernel, Bool.and_false], if_neg (by decide)]
  unfold getAttrByItsOwn
  refine wpAny_bind (L2.at (wpAny_bind (wpAny_attempt (wpAny_holding ?_))))
  unfold callGetattribute
  rw [show (expr && onTheHeap (Value.builtin "BaseException.__getattribute__")) = false from Bool.and_false _, if_neg (by decide)]
  unfold boundAndCalled
  rw [bga_bind]
  refine wpAny_bind (wpAny_pure (wpAny_call (codeAny_mono h fun r s' z => ?_)))
  rcases r with e | (v | _ | _ | _) <;> first | exact z | exact z.elim

theorem exc_get {v : Value} (X : K.In s.heap) (I : InstAt s.heap x ox C od) (hg : excGet K C = true) (hf : findObj K C od name = some (.value v)) (hv : handedIn v = true)
    (h : Q v { s with toks := s.toks + 1 }) : wpAny (model prog w) A (getAttr (.ref x) name expr) Q E s := by
  refine exc_get_open X I hg hf ?_
  simp only [excGet, Bool.and_eq_true, beq_iff_eq] at hg
  obtain ⟨⟨h1, h2⟩, h3⟩ := hg
  obtain ⟨hh, g, d, t, os⟩ := s
  have L0 := I.type (M := model prog w)
  have L3 := looks_subIn (M := model prog w) X h3
  have L1 := looks_find (M := model prog w) X I hf
  refine codeAny_call_builtin bga_plain PySem.F.entry_bexc_ga (@check_slot (model prog w) _ _ ⟨hh, g, d, t + 1, os⟩ "BaseException.__getattribute__" "BaseException" "__getattribute__" (.ref x) [.str name t] [] _ bga_kind bga_split (L0.andThen L3) (PySem.F.args_bexc_ga _ _) ?_)
  unfold Builtin.«object.__getattribute__»
  refine wpAny_bind (wpAny_pure (wpAny_bind (wpAny_pure (wpAny_bind (L0.at (wpAny_bind (L1.at ?_)))))))
  refine wpAny_pure ?_
  show wpAny _ _ (handedOut v) _ _ _
  rw [handedOut_of hv]; exact wpAny_pure h

theorem exc_get_args {d : Option Addr} (X : K.In s.heap) (I : InstAt s.heap x (excObj C d ta) C od) (hg : excGet K C = true) (hf : findObj K C od "args" = some (.bind (.builtin "getset_descriptor.__get__") (.builtin "BaseException.args")))
    (h : Q (.ref ta) { s with toks := s.toks + 1 }) : wpAny (model prog w) A (getAttr (.ref x) "args" expr) Q E s := by
  refine exc_get_open X I hg hf ?_
  simp only [excGet, Bool.and_eq_true, beq_iff_eq] at hg
  obtain ⟨⟨h1, h2⟩, h3⟩ := hg
  obtain ⟨hh, g, dr, t, os⟩ := s
  have L0 := I.type (M := model prog w)
  have L3 := looks_subIn (M := model prog w) X h3
  have L1 := looks_find (M := model prog w) X I hf
  have hx := I.at_
  refine codeAny_call_builtin bga_plain PySem.F.entry_bexc_ga (@check_slot (model prog w) _ _ ⟨hh, g, dr, t + 1, os⟩ "BaseException.__getattribute__" "BaseException" "__getattribute__" (.ref x) [.str "args" t] [] _ bga_kind bga_split (L0.andThen L3) (PySem.F.args_bexc_ga _ _) ?_)
  unfold Builtin.«object.__getattribute__»
  refine wpAny_bind (wpAny_pure (wpAny_bind (wpAny_pure (wpAny_bind (L0.at (wpAny_bind (L1.at ?_)))))))
  show wpAny _ _ (holding [.builtin "BaseException.args"] (call (.builtin "getset_descriptor.__get__") [.builtin "BaseException.args", .ref x, .ref C]) >>= ret) _ _ _
  refine wpAny_bind (wpAny_holding (wpAny_call ?_))
  have hT5 : (⟨hh, g, dr, t + 1, os⟩ : Shared).TypeIs (.builtin "BaseException.args") "getset_descriptor" := PySem.F.typeOf_bexc_args
  refine codeAny_call_builtin PySem.F.slot_gs_get.plain PySem.F.entry_gs_get (PySem.F.slot_gs_get.check _ _ _ _ _ _ _ _ hT5 (PySem.F.args_gs_get _ _ _) ?_)
  have L4 : Looks (model prog w) hh (isSubtype (.ref C) (.type (".".intercalate ("BaseException.args".cutAt '.').dropLast))) true := by rw [PySem.F.owner_bexc_args]; exact L3
  dsimp only at L0
  unfold Builtin.«getset_descriptor.__get__» descrGet descrGetArgs
  dsimp only
  repeat lk
  refine ⟨Code.quiet_builtin _ (by decide +kernel), codeAny_builtin PySem.F.entry_bexc_args ?_⟩
  unfold Builtin.«BaseException.args»
  refine wpAny_bind (wpAny_field hx rfl (x := .ref ta) rfl ?_)
  exact wpAny_pure (wpAny_pure (wpAny_pure h))
end
end Mine
end
section
open PySem PySem.W PySem.Calls PyProof.Rows
set_option Elab.async false
set_option maxRecDepth 100000
set_option maxHeartbeats 4000000
namespace Mine
def AD (d u : Nat) : Around := { handled := none, depth := d, frames := none, guards := some [], units := u }
theorem weaken {α : Type} {M : Model} {A : Around} {d u : Nat} {t : Sem α} {Q : α → Shared → Prop} {E : Value → Shared → Prop} {s : Shared} (h1 : A.handled = none) (hg : A.guards = some []) (h2 : A.depth ≤ d) (h3 : A.units ≤ u) (h : wpAny M (AD d u) t Q E s) : wpAny M A t Q E s :=
  fun Γ p hΓ => h Γ p ⟨hΓ.1.trans h1, Nat.le_trans hΓ.2.1 h2, (by intro _ e; cases e), (by intro g e; exact hΓ.2.2.2.1 g (hg.trans e)), Nat.le_trans hΓ.2.2.2.2 h3⟩
abbrev Grow (h h' : Heap) : Prop := ∀ b o, h.get? b = some o → h'.get? b = some o
section
variable {prog : Program} {w : World} {A : Around} {K : Frag} {s : Shared} {h₀ : Heap} {L : Addr} {m : Str → Option Value} {news : List (Addr × Obj)} {R : Result → Shared → Prop}
  {name qual : Str} {params : Arguments} {body : List Stmt} {scope : Scope} {dV kV doc pm cdv ct oc : Value} {an od : Option Addr} {osl : Array (Option Value)} {f : Addr} {args : Args} {binds : List (Str × Value)}
/-- enter a def: what stands in h₀ is kept, the objects of the ledger may change -/
theorem enter_new (G : Grow h₀ s.heap) (hz : h₀.objs.size ≤ s.heap.objs.size) (X₀ : K.In h₀) (hlim : h₀.NoLimit) (N : ∀ p ∈ news, s.heap.get? p.1 = some p.2 ∧ h₀.get? p.1 = none)
    (ho : K.lookup f = some ⟨oc, od, .func (fnOf name qual params body scope dV kV doc pm an cdv ct), osl⟩) (hcd : codeIn K cdv qual = true) (hroom : A.depth < recursionLimit)
    (hbind : BindsTo s (fnOf name qual params body scope dV kV doc pm an cdv ct) args binds) (hloc : ∀ y ∈ binds, scope.names.lookup y.1 = some .local)
    (hco : scope.isCoroutine = false) (hgen : scope.isGenerator = false) (hk : scope.kind = .function) (hcell : ∀ x ∈ scope.names, x.2 ≠ .cell)
    (h : ∀ L' h₁ tk, Fr h₀ L' h₁ (fun y => binds.reverse.lookup y) → News h₀ L' h₁ news → (∀ p ∈ news, p.1 < L') → 
      wpAny (model prog w) (A.deeper (envOf qual scope L' f cdv)) (execs body (envOf qual scope L' f cdv)) (fun fl s' => R (.ok (.ret (match fl with | .ret v => v | _ => .none))) s') (fun _ _ => False)
        { s with heap := h₁, toks := tk }) : codeAny (model prog w) A (.call (.ref f) args) R s := by
  have X := X₀.keeps G
  refine codeAny_call_def (fd := fnOf name qual params body scope dV kV doc pm an cdv ct) (body := body) (binds := binds) hroom (X _ _ ho) rfl (hlim.keeps G) (codeRec_of X hcd) rfl hbind hcell hloc (fun h₁ hns hk₁ => ?_) hco hgen hk
  refine wpAny_mono (h s.heap.objs.size h₁ _ ⟨hns, fun b o e => hk₁ b o (G b o e), hz⟩ (fun p hp => ⟨hk₁ _ _ (N p hp).1, Nat.ne_of_lt (Heap.lt_size (N p hp).1), (N p hp).2⟩) fun p hp => Heap.lt_size (N p hp).1) (fun _ _ z => z) fun _ _ z => z.elim

/-- the way back into a frame -/
def BackIn (h₀ : Heap) (L : Addr) (m : Str → Option Value) (oL : Obj) (R : Result → Shared → Prop) (v : Value) (s' : Shared) : Prop := (∀ h', h'.get? L = some oL → Grow h₀ h' → Fr h₀ L h' m) → R (.ok (.ret v)) s'
def AllNe (d : Nat) : List (Addr × Obj) → Prop
  | [] => True
  | p :: r => @Ne Nat p.1 d ∧ AllNe d r
theorem allNe_of {d : Addr} : ∀ {l : List (Addr × Obj)}, (∀ p ∈ l, p.1 ≠ d) → AllNe d l
  | [], _ => trivial
  | p :: _, h => ⟨h p (.head _), allNe_of fun q hq => h q (.tail _ hq)⟩
inductive Drop (L : Addr) (oL : Obj) : List (Addr × Obj) → List (Addr × Obj) → Prop
  | head {r} : (∀ p ∈ r, p.1 ≠ L) → Drop L oL ((L, oL) :: r) r
  | tail {p r r'} : p.1 ≠ L → Drop L oL r r' → Drop L oL (p :: r) (p :: r')
theorem Drop.mem {L : Addr} {oL : Obj} : ∀ {l l' : List (Addr × Obj)}, Drop L oL l l' → (L, oL) ∈ l
  | _, _, .head _ => .head _
  | _, _, .tail _ r => .tail _ r.mem
theorem Drop.sub {L : Addr} {oL : Obj} : ∀ {l l' : List (Addr × Obj)}, Drop L oL l l' → ∀ p ∈ l', p ∈ l ∧ p.1 ≠ L
  | _, _, .head h, p, hp => ⟨.tail _ hp, h p hp⟩
  | _, _, .tail h r, p, hp => by
    rcases List.mem_cons.mp hp with rfl | hp
    · exact ⟨.head _, h⟩
    · exact ⟨.tail _ (r.sub p hp).1, (r.sub p hp).2⟩
theorem back_ {oL : Obj} {L' : Addr} {m' : Str → Option Value} {news' news'' : List (Addr × Obj)} {v : Value} {s' : Shared} (F' : Fr h₀ L' s'.heap m') (N' : News h₀ L' s'.heap news') (D : Drop L oL news' news'')
    (h : Fr h₀ L s'.heap m → News h₀ L s'.heap news'' → R (.ok (.ret v)) s') : BackIn h₀ L m oL R v s' := fun hb =>
  h (hb _ (N' _ D.mem).1 F'.keep) fun p hp => ⟨(N' p (D.sub p hp).1).1, (D.sub p hp).2, (N' p (D.sub p hp).1).2.2⟩

/-- enter a def from within a frame: the frame's own object stands in the ledger -/
theorem enter_in (F : Fr h₀ L s.heap m) (X₀ : K.In h₀) (N : News h₀ L s.heap news) (hlim : h₀.NoLimit)
    (ho : K.lookup f = some ⟨oc, od, .func (fnOf name qual params body scope dV kV doc pm an cdv ct), osl⟩) (hcd : codeIn K cdv qual = true) (hroom : A.depth < recursionLimit)
    (hbind : BindsTo s (fnOf name qual params body scope dV kV doc pm an cdv ct) args binds) (hloc : ∀ y ∈ binds, scope.names.lookup y.1 = some .local)
    (hco : scope.isCoroutine = false) (hgen : scope.isGenerator = false) (hk : scope.kind = .function) (hcell : ∀ x ∈ scope.names, x.2 ≠ .cell)
    (h : ∀ oL L' h₁ tk, Fr h₀ L' h₁ (fun y => binds.reverse.lookup y) → News h₀ L' h₁ ((L, oL) :: news) → (∀ p ∈ (L, oL) :: news, p.1 < L') → (∀ p ∈ news, p.1 ≠ L) →
      wpAny (model prog w) (A.deeper (envOf qual scope L' f cdv)) (execs body (envOf qual scope L' f cdv)) (fun fl s' => BackIn h₀ L m oL R (match fl with | .ret v => v | _ => .none) s') (fun _ _ => False)
        { s with heap := h₁, toks := tk }) : codeAny (model prog w) A (.call (.ref f) args) R s := by
  obtain ⟨oL, es, ep, hL, r⟩ := F.ns
  have hn : h₀.get? L = none := by
    cases q : h₀.get? L with
    | none => rfl
    | some o => exact absurd (Heap.lt_size q) (Nat.not_lt.mpr F.above)
  refine enter_new (news := (L, oL) :: news) F.keep (Nat.le_of_lt (Nat.lt_of_le_of_lt F.above (Heap.lt_size hL))) X₀ hlim (fun p hp => ?_) ho hcd hroom hbind hloc hco hgen hk hcell fun L' h₁ tk F' N' l => wpAny_mono (h oL L' h₁ tk F' N' l fun p hp => (N p hp).2.1) (fun _ _ z => z fun h' e g => ⟨⟨oL, es, ep, e, r⟩, g, F.above⟩) fun _ _ z => z
  rcases List.mem_cons.mp hp with rfl | hp
  · exact ⟨hL, hn⟩
  · exact ⟨(N p hp).1, (N p hp).2.2⟩
end
end Mine
end
section
open PySem PySem.W PySem.Calls PyProof.Rows
set_option Elab.async false
set_option maxRecDepth 100000
set_option maxHeartbeats 4000000
namespace Mine
/-- what is written of v, in any heap that holds what hb holds -/
structure Reprs (prog : Program) (w : World) (hb : Heap) (v : Value) (t : Str) : Prop where
  call : ∀ (A : Around) (s : Shared) (Q E : Value → Shared → Prop), A.handled = none → A.guards = some [] → A.depth ≤ 800 → A.units ≤ 4000 → Grow hb s.heap →
    (∀ h' u tk, Grow s.heap h' → Q (.str t u) { s with heap := h', toks := tk }) → wpAny (model prog w) A (PySem.call (.builtin "repr") [v]) Q E s
  obj : ∀ (A : Around) (s : Shared) (Q E : Value → Shared → Prop), A.handled = none → A.guards = some [] → A.depth ≤ 800 → A.units ≤ 4000 → Grow hb s.heap →
    (∀ h' u tk, Grow s.heap h' → Q (.str t u) { s with heap := h', toks := tk }) → wpAny (model prog w) A (pyReprObj v) Q E s
  short : t.length ≤ 1000000
theorem Reprs.mono {prog : Program} {w : World} {hb h' : Heap} {v : Value} {t : Str} (r : Reprs prog w hb v t) (g : Grow hb h') : Reprs prog w h' v t :=
  ⟨fun A s Q E a b c d e f => r.call A s Q E a b c d (fun x o q => e x o (g x o q)) f, fun A s Q E a b c d e f => r.obj A s Q E a b c d (fun x o q => e x o (g x o q)) f, r.short⟩
def Fields (od : Obj) (fs : List (Str × Value)) : Prop := ∀ p ∈ fs, lookIn p.1 od = some (some p.2)
/-- an error, newly made -/
structure ErrNew (h h' : Heap) (C e d ta : Addr) (od : Obj) (msg : Str) (u : Tok) (fs : List (Str × Value)) (args : List Value) : Prop where
  he : h'.get? e = some (excObj C (some d) ta)
  hd : h'.get? d = some od
  ht : h'.get? ta = some (tupObj args)
  ne : h.get? e = none
  nd : h.get? d = none
  nt : h.get? ta = none
  hm : lookIn "message" od = some (some (.str msg u))
  hf : Fields od fs
/-- what a line number is told as -/
structure Lines (prog : Program) (w : World) (n : Int) (t : Str) : Prop where
  call : ∀ (A : Around) (s : Shared) (Q E : Value → Shared → Prop) (tk nt : Tok), A.handled = none → A.guards = some [] → A.depth ≤ 800 → A.units ≤ 4000 →
    (∀ h' u k, Grow s.heap h' → Q (.str t u) { s with heap := h', toks := k }) → wpAny (model prog w) A (PySem.call (.builtin "str.format") [.str (Str.ofString " [line {0:2d}]") tk, .int n nt]) Q E s
  short : t.length ≤ 1000
section
variable {prog : Program} {w : World} {A : Around} {E : Value → Shared → Prop} {s : Shared} {h₀ : Heap} {L : Addr} {m : Str → Option Value} {news : List (Addr × Obj)} {v : Value} {t : Str} {Q : Value → Shared → Prop}
theorem fr_grow {h h' : Heap} (F : Fr h₀ L h m) (g : Grow h h') : Fr h₀ L h' m := ⟨F.ns.keeps g, fun b o e => g b o (F.keep b o e), F.above⟩
theorem news_grow {h h' : Heap} (N : News h₀ L h news) (g : Grow h h') : News h₀ L h' news := fun p hp => ⟨g _ _ (N p hp).1, (N p hp).2⟩
theorem repr_use (r : Reprs prog w h₀ v t) (F : Fr h₀ L s.heap m) (N : News h₀ L s.heap news) (h1 : A.handled = none) (h2 : A.guards = some []) (h3 : A.depth ≤ 800) (h4 : A.units ≤ 4000)
    (h : ∀ h' u tk, Fr h₀ L h' m → News h₀ L h' news → Q (.str t u) { s with heap := h', toks := tk }) : wpAny (model prog w) A (call (.builtin "repr") [v]) Q E s :=
  r.call A s Q E h1 h2 h3 h4 F.keep fun h' u tk g => h h' u tk (fr_grow F g) (news_grow N g)
theorem isTup_of {h : Heap} {a : Addr} {vs : List Value} (N : News h₀ L h news) (hm : (a, ({ cls := .type "tuple", data := .seq vs.toArray } : Obj)) ∈ news) : h.IsTuple a vs.toArray := ⟨_, (N _ hm).1, rfl, _, rfl⟩
theorem meta_Exception : typeOf (.type "Exception") = pure (.type "type") := by first | rfl | kernel_rfl
theorem line_use {n : Int} {tk nt : Tok} (r : Lines prog w n t) (F : Fr h₀ L s.heap m) (N : News h₀ L s.heap news) (h1 : A.handled = none) (h2 : A.guards = some []) (h3 : A.depth ≤ 800) (h4 : A.units ≤ 4000)
    (h : ∀ h' u tk, Fr h₀ L h' m → News h₀ L h' news → Q (.str t u) { s with heap := h', toks := tk }) : wpAny (model prog w) A (call (.builtin "str.format") [.str (Str.ofString " [line {0:2d}]") tk, .int n nt]) Q E s :=
  r.call A s Q E tk nt h1 h2 h3 h4 fun h' u tk g => h h' u tk (fr_grow F g) (news_grow N g)
theorem isNot_none (hv : v ≠ .none) (q : Q (.bool true) s) : wpAny (model prog w) A (compareOp .IsNot v .none) Q E s :=
  isnot_none_gen (by rw [show (v == Value.none) = false from beq_eq_false_iff_ne.mpr hv]; exact q)
theorem err_close {h' : Heap} {C e d ta : Addr} {od : Obj} {msg : Str} {u : Tok} {fs : List (Str × Value)} {args : List Value} (N : News h₀ L h' news) (h1 : (e, excObj C (some d) ta) ∈ news) (h2 : (d, od) ∈ news) (h3 : (ta, tupObj args) ∈ news)
    (hm : lookIn "message" od = some (some (.str msg u))) (hf : Fields od fs) : ErrNew h₀ h' C e d ta od msg u fs args := ⟨(N _ h1).1, (N _ h2).1, (N _ h3).1, (N _ h1).2.2, (N _ h2).2.2, (N _ h3).2.2, hm, hf⟩
theorem made_grow (h : Heap) (o o' : Obj) : Grow h ((h.push o).push o') := fun _ _ e => Heap.get?_push_of_some _ (Heap.get?_push_of_some _ e)
theorem made_news (h : Heap) (C : Addr) (vs : List Value) : ∀ p ∈ [(h.objs.size + 1, excObj C none h.objs.size), (h.objs.size, tupObj vs)], ((h.push (tupObj vs)).push (excObj C none h.objs.size)).get? p.1 = some p.2 ∧ h.get? p.1 = none := by
  intro p hp
  rcases List.mem_cons.mp hp with rfl | hp
  · exact ⟨by heap_get, Heap.get?_none_of_le (Nat.le_succ _)⟩
  · rcases List.mem_singleton.mp hp with rfl
    exact ⟨Heap.get?_push_of_some _ (Heap.get?_push_size _ rfl), Heap.get?_none_of_le (Nat.le_refl _)⟩
end
end Mine
end
section
open PySem PySem.W PySem.Calls PyProof.Rows
set_option Elab.async false
set_option maxRecDepth 100000
set_option maxHeartbeats 4000000
namespace Mine
section
variable {prog : Program} {w : World} {A : Around} {E : Value → Shared → Prop} {s : Shared} {h₀ : Heap} {L : Addr} {m : Str → Option Value} {news : List (Addr × Obj)} {v : Value} {t : Str} {Q : Value → Shared → Prop} {K : Frag}
theorem reprs_str {hb : Heap} {x : Str} {t : Tok} (hl : (reprText x).length ≤ 1000000) : Reprs prog w hb (.str x t) (reprText x) where
  call := fun A s Q E _ _ _ _ _ h => P.repr_of_str (h s.heap _ _ fun _ _ e => e) (by rw [sizeLine_eq]; omega)
  obj := fun A s Q E _ _ _ _ _ h => wpAny_pyReprObj_str (h s.heap _ _ fun _ _ e => e) (by rw [sizeLine_eq]; omega)
  short := hl

/-- an error that a contract makes, taken into a frame's ledger -/
theorem err_use {f : Value} {vs : List Value} {kw : List (Str × Value)} {C : Addr} {msg : Str} {fs : List (Str × Value)} {args : List Value}
    (c : ∀ Q E, (∀ h' tk e d ta od u, Grow s.heap h' → ErrNew s.heap h' C e d ta od msg u fs args → Q (.ref e) { s with heap := h', toks := tk }) → wpAny (model prog w) (AD 600 2000) (call f vs kw) Q E s)
    (F : Fr h₀ L s.heap m) (N : News h₀ L s.heap news) (h1 : A.handled = none) (h2 : A.guards = some []) (h3 : A.depth ≤ 600) (h4 : A.units ≤ 2000)
    (h : ∀ h' tk e d ta od u, Fr h₀ L h' m → News h₀ L h' ((e, excObj C (some d) ta) :: (d, od) :: (ta, tupObj args) :: news) → AllNe e news → AllNe d news → AllNe ta news → lookIn "message" od = some (some (.str msg u)) → Fields od fs → Q (.ref e) { s with heap := h', toks := tk }) :
    wpAny (model prog w) A (call f vs kw) Q E s := by
  refine weaken h1 h2 h3 h4 (c Q E fun h' tk e d ta od u g n => ?_)
  have hL : ∀ a, s.heap.get? a = none → a ≠ L := fun a ha z => by
    obtain ⟨o, _, _, ho, _⟩ := F.ns
    rw [z, ho] at ha; cases ha
  have h0 : ∀ a, s.heap.get? a = none → h₀.get? a = none := fun a ha => by
    cases q : h₀.get? a with
    | none => rfl
    | some o => rw [F.keep _ _ q] at ha; cases ha
  have hne : ∀ a, s.heap.get? a = none → AllNe a news := fun a ha => allNe_of fun p hp z => by
    have := (N p hp).1
    rw [z, ha] at this; cases this
  refine h h' tk e d ta od u (fr_grow F g) ?_ (hne _ n.ne) (hne _ n.nd) (hne _ n.nt) n.hm n.hf
  intro p hp
  rcases List.mem_cons.mp hp with rfl | hp
  · exact ⟨n.he, hL _ n.ne, h0 _ n.ne⟩
  rcases List.mem_cons.mp hp with rfl | hp
  · exact ⟨n.hd, hL _ n.nd, h0 _ n.nd⟩
  rcases List.mem_cons.mp hp with rfl | hp
  · exact ⟨n.ht, hL _ n.nt, h0 _ n.nt⟩
  · exact news_grow N g p hp

/-- a field of an error in the ledger -/
theorem err_get {expr : Bool} {C x d ta : Addr} {od : Obj} {name : Str} {attr : Option Value} (F : Fr h₀ L s.heap m) (X₀ : K.In h₀) (N : News h₀ L s.heap news) (h1 : (x, excObj C (some d) ta) ∈ news) (h2 : (d, od) ∈ news) (hg : excGet K C = true)
    (hh : hasDictIn K C = true) (ha : findIn K (.ref C) name = some attr) (hn : noGet K attr = true) (hl : lookIn name od = some (some v)) (hv : handedIn v = true) (h : Q v { s with toks := s.toks + 1 }) :
    wpAny (model prog w) A (getAttr (.ref x) name expr) Q E s :=
  exc_get (X₀.keeps F.keep) (InstAt.of_exc N h1 h2) hg (findObj_own hh ha hn hl) hv h
theorem err_args {expr : Bool} {C x d ta : Addr} {od : Obj} (F : Fr h₀ L s.heap m) (X₀ : K.In h₀) (N : News h₀ L s.heap news) (h1 : (x, excObj C (some d) ta) ∈ news) (h2 : (d, od) ∈ news) (hg : excGet K C = true)
    (hc : (clsIn K C).isSome = true) (ha : findIn K (.ref C) "args" = some (some (.builtin "BaseException.args"))) (hs : specialIn K (.builtin "BaseException.args") "__get__" = some (some (.builtin "getset_descriptor.__get__"))) (ht : takesIn K (.builtin "BaseException.args") = some true)
    (h : Q (.ref ta) { s with toks := s.toks + 1 }) : wpAny (model prog w) A (getAttr (.ref x) "args" expr) Q E s :=
  exc_get_args (X₀.keeps F.keep) (InstAt.of_exc N h1 h2) hg (findObj_data hc ha hs ht) h
end
end Mine
end
section
open PySem PySem.W PySem.Calls PyProof.Rows
set_option Elab.async false
namespace Mine
theorem updF_to {d : Addr} {o : Obj} : ∀ {l : List (Addr × Obj)} {g : Obj → List (Addr × Obj)}, UpdF d o l g → ∀ o', Upd d o o' l (g o')
  | _, _, .head h, _ => .head h
  | _, _, .tail h r, o' => .tail h (updF_to r o')
theorem updF_on {d : Addr} {o : Obj} : ∀ {l : List (Addr × Obj)} {g : Obj → List (Addr × Obj)}, UpdF d o l g → ∀ o' o'', Upd d o' o'' (g o') (g o'')
  | _, _, .head h, _, _ => .head h
  | _, _, .tail h r, o', o'' => .tail h (updF_on r o' o'')
theorem updF_mem {d : Addr} {o : Obj} : ∀ {l : List (Addr × Obj)} {g : Obj → List (Addr × Obj)}, UpdF d o l g → (d, o) ∈ l ∧ ∀ o', (d, o') ∈ g o' ∧ ∀ p ∈ g o', p.1 ∈ l.map (·.1)
  | _, _, .head h => ⟨.head _, fun o' => ⟨.head _, fun p hp => by
      rcases List.mem_cons.mp hp with rfl | hp
      · exact .head _
      · exact .tail _ (List.mem_map_of_mem hp)⟩⟩
  | _, _, .tail h r => ⟨.tail _ (updF_mem r).1, fun o' => ⟨.tail _ ((updF_mem r).2 o').1, fun p hp => by
      rcases List.mem_cons.mp hp with rfl | hp
      · exact .head _
      · exact .tail _ (((updF_mem r).2 o').2 p hp)⟩⟩
theorem updF_lt {d b : Addr} {o o' : Obj} {l : List (Addr × Obj)} {g : Obj → List (Addr × Obj)} (U : UpdF d o l g) (h : ∀ p ∈ l, p.1 < b) : ∀ p ∈ g o', p.1 < b := fun p hp => by
  obtain ⟨q, hq, e⟩ := List.mem_map.mp (((updF_mem U).2 o').2 p hp)
  exact e ▸ h q hq
theorem updF_ne {d b : Addr} {o o' : Obj} {l : List (Addr × Obj)} {g : Obj → List (Addr × Obj)} (U : UpdF d o l g) (h : ∀ p ∈ l, p.1 ≠ b) : ∀ p ∈ g o', p.1 ≠ b := fun p hp => by
  obtain ⟨q, hq, e⟩ := List.mem_map.mp (((updF_mem U).2 o').2 p hp)
  exact e ▸ h q hq
end Mine
namespace Mine
def G3 (_ : Array GenState) (_ : Drawn) (_ : OsState) : Prop := True
theorem tok_gen {M : Model} {α : Type} {A : Around} {t : Sem α} {Q : α → Shared → Prop} {E : Value → Shared → Prop} {h : Heap} {g : Array GenState} {d : Drawn} {o : OsState} {tk : Nat} (_ : G3 g d o) (H : ∀ tk, wpAny M A t Q E ⟨h, g, d, tk, o⟩) : wpAny M A t Q E ⟨h, g, d, tk, o⟩ := H tk
end Mine
end
section
open PySem PySem.W PySem.Calls PyProof.Rows Builtin Builtin.Str Builtin.Int Builtin.Float
set_option Elab.async false
set_option maxRecDepth 100000
set_option maxHeartbeats 4000000
namespace Mine
theorem ifno {M : Model} {A : Around} {E : Value → Shared → Prop} {s : Shared} {α : Type} {c : Prop} {d : Decidable c} {a b : Sem α} {Q : α → Shared → Prop} (h : ¬ c) (k : wpAny M A b Q E s) : wpAny M A (@ite _ c d a b) Q E s := by rw [if_neg h]; exact k
def numDigits (n : Int) : List Nat := (if n < 0 then [45] else []) ++ (Nat.toDigits 10 n.natAbs).map Char.toNat
/-- a number, two signs wide at least -/
def fig2 (n : Int) : PySem.Str := ⟨(List.replicate (2 - (numDigits n).length) 32 ++ numDigits n).toArray⟩
theorem spec2d : parseFormatSpec (PySem.Str.ofString "2d").cps.toList "int" 62 = .ok { align := 62, width := some 2, type := some 100 } := by rfl
theorem text2d (a : Int) : intSpecText { align := 62, width := some 2, type := some 100 } a = fig2 a := by
  unfold intSpecText intField' fig2 numDigits
  have hne : (Nat.toDigits 10 a.natAbs).map (fun c => (if (100 : Nat) == 88 then c.toUpper else c).toNat) = (Nat.toDigits 10 a.natAbs).map Char.toNat := rfl
  rw [hne]
  have h1 := tDigits_len_ge 10 a.natAbs
  have he : ((Nat.toDigits 10 a.natAbs).map Char.toNat).isEmpty = false := by
    cases h : Nat.toDigits 10 a.natAbs with
    | nil => rw [h] at h1; simp at h1
    | cons _ _ => rfl
  by_cases hn : a < 0
  · simp [hn, he]
  · simp [hn, he]
theorem fmt2d {a : Int} {t : Tok} (hd : a.natAbs.log2 < 1920) (hl : (fig2 a).length ≤ sizeLine) (u : Tok) : Meets («int.__format__» ⟨[.int a t, .str (PySem.Str.ofString "2d") u], []⟩) (fun _ R s => ∀ t' k, R (.ok (.ret (.str (fig2 a) t'))) { s with toks := k }) := by
  apply KPc.meets_of
  intro _ _ _ _ _ _ _
  unfold Builtin.«int.__format__»
  refine wpAny_bind (wpAny_of_eq (a := (_, _)) rfl ?_)
  refine wpAny_bind (wpAny_of_eq (a := _) rfl ?_)
  kxf_if
  refine wpAny_bind (wpAny_typeNameOf (T := "str") (typeIs_str _ _ _) (by decide) fun _ => ?_)
  refine wpAny_bind (wpAny_of_eq (a := some _) rfl ?_)
  kxf_if
  kxf_if
  refine wpAny_bind (wpAny_typeNameOfCut_int ?_)
  rw [spec2d]
  refine wpAny_ite (KPc.ite_yes (by decide +kernel) ?_)
  refine wpAny_bind (wpAny_of_eq (PySem.overDigitLimit_small hd) ?_)
  show wpAny _ _ (retStr _) _ _ _
  refine KXf.ret_text (T := fig2 a) ?e ?l ?h
  case h => assumption
  case e => (
    rw [← text2d a]
    unfold intSpecText
    rw [show (if ({ align := 62, width := some 2, type := some 100 } : FormatSpec).alt = true then _ else []) = ([] : List Nat) from if_neg (by decide)]
    generalize e1 : (Nat.toDigits 10 a.natAbs).map _ = ds
    rw [show (Nat.toDigits 10 a.natAbs).map (fun c => (if (100 : Nat) == 88 then c.toUpper else c).toNat) = ds from e1]
    cases decide (a < 0) <;> cases ds <;> rfl)
  case l => refine Nat.le_trans (Nat.le_of_eq (congrArg PySem.Str.length (a₂ := fig2 a) ?_)) hl; (
    rw [← text2d a]
    unfold intSpecText
    rw [show (if ({ align := 62, width := some 2, type := some 100 } : FormatSpec).alt = true then _ else []) = ([] : List Nat) from if_neg (by decide)]
    generalize e1 : (Nat.toDigits 10 a.natAbs).map _ = ds
    rw [show (Nat.toDigits 10 a.natAbs).map (fun c => (if (100 : Nat) == 88 then c.toUpper else c).toNat) = ds from e1]
    cases decide (a < 0) <;> cases ds <;> rfl)
theorem formatOf_2d {prog : Program} {w : World} {A : Around} {E : Value → Shared → Prop} {s : Shared} {n : Int} {u : Tok} {X : PySem.Str} {Q : Value → Shared → Prop} (hX : X = PySem.Str.ofString "2d") (hd : n.natAbs.log2 < 1920) (hl : (fig2 n).length ≤ sizeLine)
    (h : ∀ t' k, Q (.str (fig2 n) t') { s with toks := k }) : wpAny (model prog w) A (PySem.Builtin.Str.formatOf (.int n u) X) Q E s := by
  subst hX
  unfold PySem.Builtin.Str.formatOf
  refine wpAny_ite (KPc.ite_no Bool.false_ne_true ?_)
  refine wpAny_bind (wpAny_mkStr ?_ (by decide))
  refine wpAny_bind (m := callSpecial? (.int n u) (PySem.Str.ofString "__format__") [.str (PySem.Str.ofString "2d") s.toks]) (wpAny_callSpecial?_slot (name := PySem.Str.ofString "__format__") (typeIs_int _ n u) F.slot_int_format
    (call_meets F.slot_int_format (typeIs_int _ n u) F.entry_int_format (F.args_int_format_2 _ _) (fmt2d hd hl _) fun t' k => ?_))
  refine wpAny_bind (wpAny_of_eq (a := some (fig2 n)) rfl ?_)
  refine wpAny_ite (KPc.ite_no Bool.false_ne_true ?_)
  exact wpAny_pure (h _ _)
theorem field_man {prog : Program} {w : World} {A : Around} {E : Value → Shared → Prop} {s : Shared} {id : String} {a : Array Value} {byName : PySem.Str → Sem Value} {v : Value} {Q : Value × Numbering → Shared → Prop} {X : List Nat} (hX : X = [48]) (ha : a[0]? = some v)
    (h : Q (v, .manual) s) : wpAny (model prog w) A (fieldObject id (some a) byName X .unset) Q E s := by
  subst hX
  unfold fieldObject
  refine wpAny_bind (wpAny_of_eq (a := some 0) rfl ?_)
  refine wpAny_bind (wpAny_of_eq (a := (some 0, .manual)) rfl ?_)
  simp only [ha, pure_bind]
  rw [KPc.range_list]
  exact wpAny_bind (wpAny_pure (wpAny_pure h))
def lineText (n : Int) : PySem.Str := (PySem.Str.ofString " [line " ++ fig2 n) ++ PySem.Str.ofString "]"
theorem line_meets {n : Int} {tk nt : Tok} (hd : n.natAbs.log2 < 1920) (hl : (fig2 n).length ≤ 900) : Meets («str.format» ⟨[.str (PySem.Str.ofString " [line {0:2d}]") tk, .int n nt], []⟩) (fun _ R s => ∀ t' k, R (.ok (.ret (.str (lineText n) t'))) { s with toks := k }) := by
  apply KPc.meets_of
  intro _ _ _ _ _ _ _
  unfold Builtin.«str.format»
  refine wpAny_bind (wpAny_of_eq (a := (_, _, _)) rfl ?_)
  refine wpAny_bind ?_
  unfold Builtin.Str.buildString
  refine wpAny_bind ?_
  rw [KPc.range_list]
  refine KFm.start ?_
  intro _ _
  refine KPc.turn ?_
  kpc_if
  kpc_check
  refine wpAny_bind (field_man rfl rfl ?_)
  refine wpAny_bind (wpAny_holding (wpAny_of_eq (a := _) rfl ?_))
  kpc_if
  refine wpAny_bind (wpAny_pure ?_)
  refine wpAny_bind (wpAny_holding (formatOf_2d (by rfl) hd (by rw [sizeLine_eq]; omega) ?_)); intro _ _
  refine wpAny_bind (wpAny_of_eq (a := some _) rfl ?_)
  refine wpAny_pure ?_
  refine KFm.after_field (K := 900) (by kpc_g) (by kpc_text) (by kpc_obj) hl (by kpc_obj) (by kfm_cat2) (by kfm_rest) ?_
  intro _ _
  refine KPc.turn ?_
  kpc_if
  kpc_check
  kfm_lit
  refine KPc.turn ?_
  kpc_if
  kfm_close
end Mine
end
section
open PySem PySem.W PySem.Calls PyProof.Rows
set_option Elab.async false
set_option maxRecDepth 100000
set_option maxHeartbeats 4000000
namespace Mine
theorem lines_of {prog : Program} {w : World} {n : Int} (hd : n.natAbs.log2 < 1920) (hl : (fig2 n).length ≤ 900) : Lines prog w n (lineText n) where
  call := fun A s Q E tk nt _ _ _ _ h => KFm.call_k rfl (KFm.args_2 _ _) (line_meets hd hl) fun t' k => h s.heap t' k fun _ _ e => e
  short := by
    have h1 : (PySem.Str.ofString " [line ").length = 7 := by decide +kernel
    have h2 : (PySem.Str.ofString "]").length = 1 := by decide +kernel
    simp only [lineText, PySem.Str.length_append]
    omega
end Mine
end
section
open PySem PySem.W PySem.Calls PyProof.Rows
set_option Elab.async false
set_option maxRecDepth 100000
set_option maxHeartbeats 4000000
namespace Mine
section
variable {prog : Program} {w : World} {A : Around} {E : Value → Shared → Prop} {s : Shared} {h₀ : Heap} {L : Addr} {m : Str → Option Value} {news : List (Addr × Obj)} {v : Value} {t : Str} {Q : Value → Shared → Prop} {K : Frag}
/-- a field of an error that stood ahead of the frame -/
theorem err_get0 {expr : Bool} {C x d ta : Addr} {od : Obj} {name : Str} {attr : Option Value} (F : Fr h₀ L s.heap m) (X₀ : K.In h₀) (h1 : h₀.get? x = some (excObj C (some d) ta)) (h2 : h₀.get? d = some od) (hl : lookIn name od = some (some v)) (hg : excGet K C = true)
    (hh : hasDictIn K C = true) (ha : findIn K (.ref C) name = some attr) (hn : noGet K attr = true) (hv : handedIn v = true) (h : Q v { s with toks := s.toks + 1 }) :
    wpAny (model prog w) A (getAttr (.ref x) name expr) Q E s :=
  exc_get (X₀.keeps F.keep) ⟨F.keep _ _ h1, rfl, rfl, F.keep _ _ h2⟩ hg (findObj_own hh ha hn hl) hv h
/-- str of an error of the ledger -/
theorem err_str {C x d ta f : Addr} {od : Obj} {msg : Str} {u : Tok} (F : Fr h₀ L s.heap m) (X₀ : K.In h₀) (N : News h₀ L s.heap news) (h1 : (x, excObj C (some d) ta) ∈ news) (h2 : (d, od) ∈ news) (hm : lookIn "message" od = some (some (.str msg u)))
    (c : ∀ Q E, s.heap.get? x = some (excObj C (some d) ta) → s.heap.get? d = some od → lookIn "message" od = some (some (.str msg u)) → K.In s.heap → (∀ h' tk, Grow s.heap h' → Q (.str msg u) { s with heap := h', toks := tk }) → wpAny (model prog w) (AD 610 2100) (call (.ref f) [.ref x]) Q E s)
    (hs : findIn K (.ref C) "__str__" = some (some (.ref f))) (hf : isFn K (.ref f) = true) (hu : A.in1.in1.units < cLine) (a1 : A.in1.in1.handled = none) (a2 : A.in1.in1.guards = some []) (a3 : A.in1.in1.depth ≤ 610) (a4 : A.in1.in1.units ≤ 2100)
    (h : ∀ h' tk, Fr h₀ L h' m → News h₀ L h' news → Q (.str msg u) { s with heap := h', toks := tk }) : wpAny (model prog w) A (call (.type "str") [.ref x]) Q E s :=
  kso_call hu (X₀.keeps F.keep) (InstAt.of_exc N h1 h2) hs hf (weaken a1 a2 a3 a4 (c (StrBack Q) E (N _ h1).1 (N _ h2).1 hm (X₀.keeps F.keep) fun h' tk g => h h' tk (fr_grow F g) (news_grow N g)))
/-- a contract that gives a text back, used from a frame -/
theorem text_use {f : Value} {vs : List Value} {kw : List (Str × Value)} {x : Str}
    (c : ∀ Q E, (∀ h' tk u, Grow s.heap h' → Q (.str x u) { s with heap := h', toks := tk }) → wpAny (model prog w) (AD 600 2000) (call f vs kw) Q E s)
    (F : Fr h₀ L s.heap m) (N : News h₀ L s.heap news) (h1 : A.handled = none) (h2 : A.guards = some []) (h3 : A.depth ≤ 600) (h4 : A.units ≤ 2000)
    (h : ∀ h' tk u, Fr h₀ L h' m → News h₀ L h' news → Q (.str x u) { s with heap := h', toks := tk }) : wpAny (model prog w) A (call f vs kw) Q E s :=
  weaken h1 h2 h3 h4 (c Q E fun h' tk u g => h h' tk u (fr_grow F g) (news_grow N g))
end
/-- one frame name changes, in one way or another -/
def Joined (h₀ : Heap) (L : Addr) (m : Str → Option Value) (news : List (Addr × Obj)) (y : Str) (P : Value → Prop) (s : Shared) (fl : Flow) (s' : Shared) : Prop :=
  fl = .next ∧ ∃ h' tk v, s' = { s with heap := h', toks := tk } ∧ P v ∧ Fr h₀ L h' (fun z => if z = y then some v else m z) ∧ News h₀ L h' news
def JoinedV (h₀ : Heap) (L : Addr) (m : Str → Option Value) (news : List (Addr × Obj)) (P : Value → Prop) (s : Shared) (v : Value) (s' : Shared) : Prop :=
  P v ∧ ∃ h' tk, s' = { s with heap := h', toks := tk } ∧ Fr h₀ L h' m ∧ News h₀ L h' news
section
variable {prog : Program} {w : World} {A : Around} {E : Value → Shared → Prop} {s : Shared} {h₀ : Heap} {L : Addr} {m : Str → Option Value} {news : List (Addr × Obj)} {M : Model}
theorem join_ {t : Sem Flow} {Q : Flow → Shared → Prop} (y : Str) (P : Value → Prop) (F : Fr h₀ L s.heap m) (N : News h₀ L s.heap news) (h1 : wpAny M A t (Joined h₀ L m news y P s) E s)
    (h2 : ∀ h' tk v, P v → Fr h₀ L h' (fun z => if z = y then some v else m z) → News h₀ L h' news → Q .next { s with heap := h', toks := tk }) : wpAny M A t Q E s :=
  wpAny_mono h1 (fun _ _ ⟨e, h', tk, v, e', p, F', N'⟩ => by subst e; subst e'; exact h2 h' tk v p F' N') fun _ _ z => z
theorem joinV_ {t : Sem Value} {Q : Value → Shared → Prop} (P : Value → Prop) (F : Fr h₀ L s.heap m) (N : News h₀ L s.heap news) (h1 : wpAny M A t (JoinedV h₀ L m news P s) E s)
    (h2 : ∀ v h' tk, P v → Fr h₀ L h' m → News h₀ L h' news → Q v { s with heap := h', toks := tk }) : wpAny M A t Q E s :=
  wpAny_mono h1 (fun _ _ ⟨p, h', tk, e', F', N'⟩ => by subst e'; exact h2 _ h' tk p F' N') fun _ _ z => z
theorem joined_set {y : Str} {P : Value → Prop} {h' : Heap} {tk : Nat} {v : Value} (p : P v) (F : Fr h₀ L h' (fun z => if z = y then some v else m z)) (N : News h₀ L h' news) : Joined h₀ L m news y P s .next { s with heap := h', toks := tk } := ⟨rfl, h', tk, v, rfl, p, F, N⟩
theorem joined_kept {y : Str} {P : Value → Prop} {h' : Heap} {tk : Nat} {v : Value} (p : P v) (hm : m y = some v) (F : Fr h₀ L h' m) (N : News h₀ L h' news) : Joined h₀ L m news y P s .next { s with heap := h', toks := tk } :=
  ⟨rfl, h', tk, v, rfl, p, by
    have e : (fun z => if z = y then some v else m z) = m := by
      funext z
      by_cases hz : z = y
      · rw [if_pos hz, hz, hm]
      · rw [if_neg hz]
    rw [e]; exact F, N⟩
theorem joinedV_ {P : Value → Prop} {h' : Heap} {tk : Nat} {v : Value} {news' : List (Addr × Obj)} (p : P v) (F : Fr h₀ L h' m) (N : News h₀ L h' news') (hs : ∀ q ∈ news, q ∈ news') : JoinedV h₀ L m news P s v { s with heap := h', toks := tk } := ⟨p, h', tk, rfl, F, fun q hq => N q (hs q hq)⟩
end
end Mine
end
section
open PySem PySem.W PySem.Calls PyProof.Rows
set_option Elab.async false
set_option maxRecDepth 100000
set_option maxHeartbeats 4000000
namespace Mine
section
variable {prog : Program} {w : World} {A : Around} {E : Value → Shared → Prop} {s : Shared}
/-- an item of a list that was just written, by an index within it: one of its items -/
theorem item_tmp {value slice : Expr} {l : Addr} {items : List Value} {k : Int} {u : Tok} {Q : Value → Shared → Prop} (hl : s.heap.IsList l items.toArray) (h0 : 0 ≤ k) (hk : k < (items.length : Int)) (hz : items.length ≤ 1000)
    (h : ∀ x ∈ items, Q x s) (hs : subscripted slice false (.ref l) (.int k u) = operate [.ref l, .int k u] (getItem (.ref l) (.int k u)) := by with_unfolding_all rfl) :
    wpAny (model prog w) A (subscriptTail value slice (.ref l) (.int k u)) Q E s := by
  have hT := hl.typeIs
  have hkn : k.toNat < items.length := by omega
  unfold subscriptTail
  refine wpAny_bind ?_
  rw [getitemInPython_of_ne hT.not_modules]
  refine wpAny_bind (wpAny_specialOf hT slot_list_getitem.lookup ?_)
  have fin : wpAny (model prog w) A (subscripted slice false (.ref l) (.int k u)) (fun r s₃ => wpAny (model prog w) A (letTemporaryGo value (.ref l) r >>= fun _ => pure r) Q E s₃) E s := by
    rw [hs]
    refine wpAny_operating (wpAny_getItem_list hl h0 (by omega) (x := items[k.toNat]) (by simp [hkn]) ?_)
    exact wpAny_bind (wpAny_letTemporaryGo (wpAny_pure (h _ (List.getElem_mem hkn))))
  first
    | exact wpAny_pure (wpAny_bind fin)
    | exact wpAny_bind (wpAny_pure (wpAny_bind fin))
    | exact wpAny_bind fin
end
end Mine
end
section
open PySem PySem.W PySem.Calls PyProof.Rows Builtin Builtin.Str
set_option Elab.async false
set_option maxRecDepth 100000
set_option maxHeartbeats 4000000
namespace Mine
/-- how repr writes v, in any heap that holds what hb holds: by the built-in, by a format's conversion, by a percent sign -/
structure Rep (prog : Program) (w : World) (hb : Heap) (v : Value) (t : PySem.Str) : Prop where
  call : ∀ (A : Around) (s : Shared) (Q E : Value → Shared → Prop), A.handled = none → A.guards = some [] → A.depth ≤ 800 → A.units ≤ 4000 → Grow hb s.heap →
    (∀ h' u tk, Grow s.heap h' → Q (.str t u) { s with heap := h', toks := tk }) → wpAny (model prog w) A (PySem.call (.builtin "repr") [v]) Q E s
  obj : ∀ (A : Around) (s : Shared) (Q E : Value → Shared → Prop), A.handled = none → A.guards = some [] → A.depth ≤ 800 → A.units ≤ 4000 → Grow hb s.heap →
    (∀ h' u tk, Grow s.heap h' → Q (.str t u) { s with heap := h', toks := tk }) → wpAny (model prog w) A (pyReprObj v) Q E s
  under : ∀ (base : Nat), base ≤ 2000000 → ∀ (A : Around) (s : Shared) (Q E : Value → Shared → Prop), A.handled = none → A.guards = some [] → A.depth ≤ 800 → A.units ≤ 4000 → Grow hb s.heap →
    (∀ h' u tk, Grow s.heap h' → Q (.str t u) { s with heap := h', toks := tk }) → wpAny (model prog w) A (pyReprObjUnder base v) Q E s
  short : t.length ≤ 1000000
theorem Rep.old {prog : Program} {w : World} {hb : Heap} {v : Value} {t : PySem.Str} (r : Rep prog w hb v t) : Reprs prog w hb v t := ⟨r.call, r.obj, r.short⟩
theorem Grow.refl (h : Heap) : Grow h h := fun _ _ e => e
theorem Grow.trans {h h' h'' : Heap} (a : Grow h h') (b : Grow h' h'') : Grow h h'' := fun x o e => b x o (a x o e)
theorem Rep.mono {prog : Program} {w : World} {hb h' : Heap} {v : Value} {t : PySem.Str} (r : Rep prog w hb v t) (g : Grow hb h') : Rep prog w h' v t :=
  ⟨fun A s Q E a b c d e f => r.call A s Q E a b c d (g.trans e) f, fun A s Q E a b c d e f => r.obj A s Q E a b c d (g.trans e) f, fun n hn A s Q E a b c d e f => r.under n hn A s Q E a b c d (g.trans e) f, r.short⟩
theorem under_leaf {M : Model} {A : Around} {E : Value → Shared → Prop} {s : Shared} {b : Nat} {v : Value} {T id : String} {Q : Value → Shared → Prop} (hT : s.TypeIs v T) (h : SlotG T (PySem.Str.ofString "__repr__") id)
    (htw : reprUnder? (.builtin id) = none) (hu : A.units < cLine)
    (hc : wpAny M A (call (.builtin id) [v]) (fun v s' => (∃ x u, v = .str x u) ∧ Q v s') E s) : wpAny M A (pyReprObjUnder b v) Q E s := by
  unfold pyReprObjUnder pyReprObjBy
  refine wpAny_bind (wpAny_cRoomFor hu ?_)
  refine wpAny_bind (wpAny_specialOf (name := PySem.Str.ofString "__repr__") hT h.lookup ?_)
  refine wpAny_bind (wpAny_callSpecialIfBoundBy?_slotG (name := PySem.Str.ofString "__repr__") hT h ?_)
  simp only [htw]
  refine wpAny_mono hc (fun v s' hv => ?_) fun _ _ x => x
  obtain ⟨⟨x, u, rfl⟩, hq⟩ := hv
  exact wpAny_bind (wpAny_isInstance (T := "str") (b := true) rfl isSubtype_str_str (wpAny_pure hq))
theorem rep_str {prog : Program} {w : World} {hb : Heap} {x : PySem.Str} {t : Tok} (hl : (reprText x).length ≤ 1000000) : Rep prog w hb (.str x t) (reprText x) where
  call := fun A s Q E _ _ _ _ _ h => P.repr_of_str (h s.heap _ _ fun _ _ e => e) (by rw [sizeLine_eq]; omega)
  obj := fun A s Q E _ _ _ _ _ h => wpAny_pyReprObj_str (h s.heap _ _ fun _ _ e => e) (by rw [sizeLine_eq]; omega)
  under := fun n _ A s Q E _ _ _ _ _ h => by
    exact under_leaf (typeIs_str s x t) F.slot_str_repr.toG rfl (Nat.lt_of_le_of_lt (by assumption) (Nat.le_of_ble_eq_true rfl)) (call_gives F.slot_str_repr (typeIs_str s x t) F.entry_str_repr (F.args_str_repr_1 _) (gives_str_repr x t) ⟨by rw [sizeLine_eq]; omega, ⟨_, _, rfl⟩, h s.heap _ _ fun _ _ e => e⟩)
  short := hl
section
variable {prog : Program} {w : World} {A : Around} {E : Value → Shared → Prop} {s : Shared} {h₀ : Heap} {L : Addr} {m : PySem.Str → Option Value} {news : List (Addr × Obj)} {v v2 v3 v4 : Value} {t t2 t3 t4 : PySem.Str}
theorem tup_grow {h h' : Heap} {b : Addr} {its : Array Value} (g : Grow h h') (x : IsTup h b its) : IsTup h' b its := by
  obtain ⟨o, a, c⟩ := x
  exact ⟨o, g _ _ a, c⟩
/-- what a call on the way asks of its surroundings -/
def Room (A : Around) : Prop := A.handled = none ∧ A.guards = some [] ∧ A.depth ≤ 790 ∧ A.units ≤ 3900
def RSpec (hb : Heap) (T : PySem.Str) (P : Heap → Prop) : PySem.Spec := fun A R s => Room A ∧ Grow hb s.heap ∧ P s.heap ∧ ∀ h' t' k, Grow s.heap h' → R (.ok (.ret (.str T t'))) { s with heap := h', toks := k }
theorem meets_rep {q : Sem Fin} {T : PySem.Str} {hb : Heap} {P : Heap → Prop}
    (h : ∀ (A : Around) (s : Shared) (Q : Fin → Shared → Prop) (E : Value → Shared → Prop), A.handled = none → A.guards = some [] → A.depth ≤ 790 → A.units ≤ 3910 → Grow hb s.heap → P s.heap → (∀ h' t' k, Grow s.heap h' → Q (.done (.ret (.str T t'))) { s with heap := h', toks := k }) → wpAny (model prog w) A q Q E s) :
    MeetsIn prog w q (RSpec hb T P) := fun A R s hS =>
  wpAny_mono (h A.in1 s (fun fin s' => ∃ v, fin = .done (.ret v) ∧ R (.ok (.ret v)) s') (fun e s' => R (.error e) s') hS.1.1 hS.1.2.1 hS.1.2.2.1 (Nat.le_trans (Nat.succ_le_succ hS.1.2.2.2) (by decide)) hS.2.1 hS.2.2.1 fun h' t' k g => ⟨_, rfl, hS.2.2.2 h' t' k g⟩)
    (fun fin s' h' => by obtain ⟨v, rfl, hv⟩ := h'; exact hv) fun _ _ x => x
end
end Mine
end
section
open PySem PySem.W PySem.Calls PyProof.Rows Builtin Builtin.Str
set_option Elab.async false
set_option maxRecDepth 100000
set_option maxHeartbeats 4000000
namespace Mine
theorem args_5 (a b c d e : Value) : argsOk "str.format" ⟨[a, b, c, d, e], []⟩ := by
  unfold argsOk; rw [signature?_of (id := "str.format") (n := ['t', 'a', 'm', 'r', 'o', 'f']) (o := ['r', 't', 's']) (by kernel_rfl) F.owner_str]; kernel_rfl
section
variable {prog : Program} {w : World} {A : Around} {E : Value → Shared → Prop} {s : Shared} {v v2 v3 v4 : Value} {t t2 t3 t4 : PySem.Str}
theorem fmtM_meets {hb : Heap} {tk : Tok} (r1 : Rep prog w hb v t) (r2 : Rep prog w hb v2 t2) (r3 : Rep prog w hb v3 t3) (r4 : Rep prog w hb v4 t4) :
    MeetsIn prog w («str.format» ⟨[.str (PySem.Str.ofString "Bad value substitution: option {!r} in section {!r} contains an interpolation key {!r} which is not a valid option name. Raw value: {!r}") tk, v, v2, v3, v4], []⟩) (RSpec hb (PySem.Str.ofString "Bad value substitution: option " ++ t ++ PySem.Str.ofString " in section " ++ t2 ++ PySem.Str.ofString " contains an interpolation key " ++ t3 ++ PySem.Str.ofString " which is not a valid option name. Raw value: " ++ t4) (fun _ => True)) := by
  apply meets_rep
  intro A s Q E a1 a2 a3 a4 g ht hQ
  unfold Builtin.«str.format»
  refine wpAny_bind (wpAny_of_eq (a := (_, _, _)) rfl ?_)
  refine wpAny_bind ?_
  unfold Builtin.Str.buildString
  refine wpAny_bind ?_
  rw [KPc.range_list]
  refine KFm.start ?_
  intro _ _
  refine KPc.turn ?_; kpc_if; kpc_check
  refine wpAny_bind (KFm.field_auto (by kfm_num) (by rfl) ?_)
  refine wpAny_bind (wpAny_holding ?_)
  refine r1.obj _ _ _ _ a1 a2 (Nat.le_trans a3 (by decide)) (Nat.le_trans a4 (by decide)) (g) fun h1 u1 tk1 g1 => ?_
  kpc_if
  refine wpAny_bind (wpAny_pure ?_)
  refine wpAny_bind (wpAny_holding (wpAny_of_eq (KFm.formatOf_str _ _) ?_))
  refine wpAny_bind (wpAny_of_eq (a := some _) rfl ?_)
  refine wpAny_pure ?_
  refine KFm.after_field (by kpc_g) (by kpc_text) (by kpc_obj) r1.short (by kpc_obj) (by kfm_cat2) (by kfm_rest) ?_
  intro _ _
  refine KPc.turn ?_; kpc_if; kpc_check
  refine wpAny_bind (KFm.field_auto (by kfm_num) (by rfl) ?_)
  refine wpAny_bind (wpAny_holding ?_)
  refine r2.obj _ _ _ _ a1 a2 (Nat.le_trans a3 (by decide)) (Nat.le_trans a4 (by decide)) (g.trans g1) fun h2 u2 tk2 g2 => ?_
  kpc_if
  refine wpAny_bind (wpAny_pure ?_)
  refine wpAny_bind (wpAny_holding (wpAny_of_eq (KFm.formatOf_str _ _) ?_))
  refine wpAny_bind (wpAny_of_eq (a := some _) rfl ?_)
  refine wpAny_pure ?_
  refine KFm.after_field (by kpc_g) (by kpc_text) (by kpc_obj) r2.short (by kpc_obj) (by kfm_cat2) (by kfm_rest) ?_
  intro _ _
  refine KPc.turn ?_; kpc_if; kpc_check
  refine wpAny_bind (KFm.field_auto (by kfm_num) (by rfl) ?_)
  refine wpAny_bind (wpAny_holding ?_)
  refine r3.obj _ _ _ _ a1 a2 (Nat.le_trans a3 (by decide)) (Nat.le_trans a4 (by decide)) ((g.trans g1).trans g2) fun h3 u3 tk3 g3 => ?_
  kpc_if
  refine wpAny_bind (wpAny_pure ?_)
  refine wpAny_bind (wpAny_holding (wpAny_of_eq (KFm.formatOf_str _ _) ?_))
  refine wpAny_bind (wpAny_of_eq (a := some _) rfl ?_)
  refine wpAny_pure ?_
  refine KFm.after_field (by kpc_g) (by kpc_text) (by kpc_obj) r3.short (by kpc_obj) (by kfm_cat2) (by kfm_rest) ?_
  intro _ _
  refine KPc.turn ?_; kpc_if; kpc_check
  refine wpAny_bind (KFm.field_auto (by kfm_num) (by rfl) ?_)
  refine wpAny_bind (wpAny_holding ?_)
  refine r4.obj _ _ _ _ a1 a2 (Nat.le_trans a3 (by decide)) (Nat.le_trans a4 (by decide)) (((g.trans g1).trans g2).trans g3) fun h4 u4 tk4 g4 => ?_
  kpc_if
  refine wpAny_bind (wpAny_pure ?_)
  refine wpAny_bind (wpAny_holding (wpAny_of_eq (KFm.formatOf_str _ _) ?_))
  refine wpAny_bind (wpAny_of_eq (a := some _) rfl ?_)
  refine wpAny_pure ?_
  refine KFm.after_field (by kpc_g) (by kpc_text) (by kpc_obj) r4.short (by kpc_obj) (by kfm_cat2) (by kfm_rest) ?_
  intro _ _
  refine KPc.turn ?_; kpc_if
  refine wpAny_pure ?_
  refine wpAny_pure ?_
  refine KPc.finish_ok (by kpc_g) (by decide +kernel) rfl ?_
  exact fun t' k => hQ _ _ _ (((g1.trans g2).trans g3).trans g4)
theorem fmtD_meets {hb : Heap} {tk t10 : Tok} (r1 : Rep prog w hb v t) (r2 : Rep prog w hb v2 t2) (r4 : Rep prog w hb v4 t4) :
    MeetsIn prog w («str.format» ⟨[.str (PySem.Str.ofString "Recursion limit exceeded in value substitution: option {!r} in section {!r} contains an interpolation key which cannot be substituted in {} steps. Raw value: {!r}") tk, v, v2, .int 10 t10, v4], []⟩) (RSpec hb (PySem.Str.ofString "Recursion limit exceeded in value substitution: option " ++ t ++ PySem.Str.ofString " in section " ++ t2 ++ PySem.Str.ofString " contains an interpolation key which cannot be substituted in " ++ PySem.Str.ofString "10" ++ PySem.Str.ofString " steps. Raw value: " ++ t4) (fun _ => True)) := by
  apply meets_rep
  intro A s Q E a1 a2 a3 a4 g ht hQ
  unfold Builtin.«str.format»
  refine wpAny_bind (wpAny_of_eq (a := (_, _, _)) rfl ?_)
  refine wpAny_bind ?_
  unfold Builtin.Str.buildString
  refine wpAny_bind ?_
  rw [KPc.range_list]
  refine KFm.start ?_
  intro _ _
  refine KPc.turn ?_; kpc_if; kpc_check
  refine wpAny_bind (KFm.field_auto (by kfm_num) (by rfl) ?_)
  refine wpAny_bind (wpAny_holding ?_)
  refine r1.obj _ _ _ _ a1 a2 (Nat.le_trans a3 (by decide)) (Nat.le_trans a4 (by decide)) (g) fun h1 u1 tk1 g1 => ?_
  kpc_if
  refine wpAny_bind (wpAny_pure ?_)
  refine wpAny_bind (wpAny_holding (wpAny_of_eq (KFm.formatOf_str _ _) ?_))
  refine wpAny_bind (wpAny_of_eq (a := some _) rfl ?_)
  refine wpAny_pure ?_
  refine KFm.after_field (by kpc_g) (by kpc_text) (by kpc_obj) r1.short (by kpc_obj) (by kfm_cat2) (by kfm_rest) ?_
  intro _ _
  refine KPc.turn ?_; kpc_if; kpc_check
  refine wpAny_bind (KFm.field_auto (by kfm_num) (by rfl) ?_)
  refine wpAny_bind (wpAny_holding ?_)
  refine r2.obj _ _ _ _ a1 a2 (Nat.le_trans a3 (by decide)) (Nat.le_trans a4 (by decide)) (g.trans g1) fun h2 u2 tk2 g2 => ?_
  kpc_if
  refine wpAny_bind (wpAny_pure ?_)
  refine wpAny_bind (wpAny_holding (wpAny_of_eq (KFm.formatOf_str _ _) ?_))
  refine wpAny_bind (wpAny_of_eq (a := some _) rfl ?_)
  refine wpAny_pure ?_
  refine KFm.after_field (by kpc_g) (by kpc_text) (by kpc_obj) r2.short (by kpc_obj) (by kfm_cat2) (by kfm_rest) ?_
  intro _ _
  refine KPc.turn ?_; kpc_if; kpc_check
  refine wpAny_bind (KFm.field_auto (by kfm_num) (by rfl) ?_)
  refine wpAny_bind (wpAny_holding (wpAny_of_eq (a := _) rfl ?_))
  kpc_if
  refine wpAny_bind (wpAny_pure ?_)
  refine wpAny_bind (wpAny_holding (KFm.formatOf_int (by decide +kernel) ?_)); intro _ _
  refine wpAny_bind (wpAny_of_eq (a := some _) rfl ?_)
  refine wpAny_pure ?_
  refine KFm.after_field (K := 100) (by kpc_g) (by kpc_text) (by kpc_obj) (by decide +kernel) (by kpc_obj) (by kfm_cat2) (by kfm_rest) ?_
  intro _ _
  refine KPc.turn ?_; kpc_if; kpc_check
  refine wpAny_bind (KFm.field_auto (by kfm_num) (by rfl) ?_)
  refine wpAny_bind (wpAny_holding ?_)
  refine r4.obj _ _ _ _ a1 a2 (Nat.le_trans a3 (by decide)) (Nat.le_trans a4 (by decide)) (((g.trans g1).trans g2)) fun h4 u4 tk4 g4 => ?_
  kpc_if
  refine wpAny_bind (wpAny_pure ?_)
  refine wpAny_bind (wpAny_holding (wpAny_of_eq (KFm.formatOf_str _ _) ?_))
  refine wpAny_bind (wpAny_of_eq (a := some _) rfl ?_)
  refine wpAny_pure ?_
  refine KFm.after_field (by kpc_g) (by kpc_text) (by kpc_obj) r4.short (by kpc_obj) (by kfm_cat2) (by kfm_rest) ?_
  intro _ _
  refine KPc.turn ?_; kpc_if
  refine wpAny_pure ?_
  refine wpAny_pure ?_
  refine KPc.finish_ok (by kpc_g) (by decide +kernel) rfl ?_
  exact fun t' k => hQ _ _ _ (((g1.trans g2).trans g4))
theorem fmt_rep {hb : Heap} {X T : PySem.Str} {tk : Tok} {vs : List Value} {Q : Value → Shared → Prop} (hR : Room A) (g : Grow hb s.heap) (ha : argsOk "str.format" ⟨.str X tk :: vs, []⟩)
    (hm : MeetsIn prog w («str.format» ⟨.str X tk :: vs, []⟩) (RSpec hb T (fun _ => True)))
    (h : ∀ h' t' k, Grow s.heap h' → Q (.str T t') { s with heap := h', toks := k }) : wpAny (model prog w) A (call (.builtin "str.format") (.str X tk :: vs)) Q E s :=
  call_meetsIn F.slot_str_format_m (typeIs_str s X tk) F.entry_str_format_m ha hm ⟨hR, g, trivial, h⟩
end
end Mine
end
section
open PySem PySem.W PySem.Calls PyProof.Rows Builtin Builtin.Str
set_option Elab.async false
set_option maxRecDepth 100000
set_option maxHeartbeats 4000000
namespace Mine
section
variable {prog : Program} {w : World} {A : Around} {E : Value → Shared → Prop} {s : Shared} {h₀ : Heap} {L : Addr} {m : PySem.Str → Option Value} {news : List (Addr × Obj)} {Q : Value → Shared → Prop} {X T : PySem.Str} {tk : Tok}
theorem reprObj_use {v : Value} {t : PySem.Str} (r : Rep prog w h₀ v t) (F : Fr h₀ L s.heap m) (N : News h₀ L s.heap news) (h1 : A.handled = none) (h2 : A.guards = some []) (h3 : A.depth ≤ 800) (h4 : A.units ≤ 4000)
    (h : ∀ h' u tk, Fr h₀ L h' m → News h₀ L h' news → Q (.str t u) { s with heap := h', toks := tk }) : wpAny (model prog w) A (pyReprObj v) Q E s :=
  r.obj A s Q E h1 h2 h3 h4 F.keep fun h' u tk g => h h' u tk (fr_grow F g) (news_grow N g)
theorem fmt_use {vs : List Value} (F : Fr h₀ L s.heap m) (N : News h₀ L s.heap news) (hR : Room A) (ha : argsOk "str.format" ⟨.str X tk :: vs, []⟩)
    (hm : MeetsIn prog w («str.format» ⟨.str X tk :: vs, []⟩) (RSpec h₀ T (fun _ => True)))
    (h : ∀ h' u tk, Fr h₀ L h' m → News h₀ L h' news → Q (.str T u) { s with heap := h', toks := tk }) : wpAny (model prog w) A (call (.builtin "str.format") (.str X tk :: vs)) Q E s :=
  fmt_rep hR F.keep ha hm fun h' u k g => h h' u k (fr_grow F g) (news_grow N g)
end
end Mine
end
section
open PySem PySem.W PySem.Calls PyProof.Rows Builtin Builtin.List
set_option Elab.async false
set_option maxRecDepth 100000
set_option maxHeartbeats 4000000
namespace Mine
/-- how an item within a tuple or list is written -/
def RepI (prog : Program) (w : World) (hb : Heap) (v : Value) (t : PySem.Str) : Prop := ∀ (base : Nat), base + t.length ≤ sizeLine → ∀ (A : Around) (E : Value → Shared → Prop) (s : Shared) (Q : PySem.Str → Shared → Prop), A.handled = none → A.depth ≤ 850 → A.units ≤ 4200 → Grow hb s.heap →
  (∀ h' tk, Grow s.heap h' → Q t { s with heap := h', toks := tk }) → wpAny (model prog w) A (pyReprUnder base v) Q E s
section
variable {prog : Program} {w : World} {A : Around} {E : Value → Shared → Prop} {s : Shared} {K : Frag} {x C f : Addr} {ox : Obj} {od : Option Obj} {hb : Heap} {t : PySem.Str}
theorem repI_str {y : PySem.Str} {k : Tok} (hl : (reprText y).length ≤ 1000000) : RepI prog w hb (.str y k) (reprText y) := fun base hb A E s Q _ _ _ _ h =>
  ReprIs.str y k (by rw [sizeLine_eq]; omega) base hb A E s Q fun tk => h s.heap tk fun _ _ e => e
theorem RepI.mono {h' : Heap} {v : Value} (r : RepI prog w hb v t) (g : Grow hb h') : RepI prog w h' v t := fun base hl A E s Q a b c d e => r base hl A E s Q a b c (g.trans d) e
theorem by_K {last : Value → List Value → Sem Value} {M : Model} {Q : Value → Shared → Prop} (hu : A.units < cLine) (X : K.In s.heap) (I : InstAt s.heap x ox C od) (hs : findIn K (.ref C) "__repr__" = some (some (.ref f))) (hf : isFn K (.ref f) = true)
    (h : wpAny M A (last (.ref f) [.ref x]) (StrBack Q) E s) : wpAny M A (pyReprObjBy last (.ref x)) Q E s := by
  unfold pyReprObjBy
  refine wpAny_bind (wpAny_cRoomFor hu ?_)
  refine wpAny_bind (wpAny_bind (I.type.here ((looks_findIn X hs).here ?_)))
  show wpAny _ _ (if (some (Value.ref f)).isNone = true then _ else _) _ _ _
  rw [if_neg (by simp)]
  have key : wpAny M A (callSpecialIfBoundBy? last (.ref x) (PySem.Str.ofString "__repr__")) (fun r s' => ∃ y u, r = some (.str y u) ∧ Q (.str y u) s') E s := by
    simp only [callSpecialIfBoundBy?, bindSpecialIfBound?]
    refine wpAny_holding (wpAny_bind (wpAny_bind (wpAny_bind (I.type.here ((looks_findIn X hs).here ?_)))))
    refine wpAny_bind (wpAny_askSetting (wpAny_ite ?_))
    have fin : wpAny M A (last (.ref f) [.ref x] >>= fun v => pure (some v)) (fun r s' => ∃ y u, r = some (.str y u) ∧ Q (.str y u) s') E s := wpAny_bind (wpAny_mono h (fun v s' hv => wpAny_pure (by cases v <;> first | exact hv.elim | exact ⟨_, _, rfl, hv⟩)) fun _ _ e => e)
    split
    · exact wpAny_bind ((bind_fn X _ (beq_iff_eq.mp hf)).here (wpAny_pure (by exact fin)))
    · exact wpAny_tryCatch (wpAny_bind ((bind_fn X _ (beq_iff_eq.mp hf)).here (wpAny_pure (by exact fin))))
  refine wpAny_bind (wpAny_mono key (fun r s' hr => ?_) fun _ _ e => e)
  obtain ⟨y, u, rfl, hq⟩ := hr
  exact wpAny_bind (wpAny_isInstance (typeIs_str _ _ _) isSubtype_str_str (wpAny_pure hq))
/-- what the def __repr__ of a class gives for x, whatever stands around -/
def Tells (prog : Program) (w : World) (hb : Heap) (f x : Addr) (t : PySem.Str) : Prop := ∀ (A : Around) (s : Shared) (Q E : Value → Shared → Prop), A.handled = none → A.depth ≤ 880 → A.units ≤ 4400 → Grow hb s.heap →
  (∀ h' u tk, Grow s.heap h' → Q (.str t u) { s with heap := h', toks := tk }) → wpAny (model prog w) A (PySem.call (.ref f) [.ref x]) Q E s
theorem inst_grow {h h' : Heap} (I : InstAt h x ox C od) (g : Grow h h') : InstAt h' x ox C od := by
  obtain ⟨a, b, c, d⟩ := I
  refine ⟨g _ _ a, b, c, ?_⟩
  cases e : ox.dict with
  | none => rw [e] at d; cases od with
    | none => exact d
    | some o => exact d
  | some q => rw [e] at d; cases od with
    | none => exact d
    | some o => exact g _ _ d
theorem units_ok {n k : Nat} (h : n ≤ k) (hk : k < cLine) : n < cLine := Nat.lt_of_le_of_lt h hk
theorem rep_inst (X : K.In hb) (I : InstAt hb x ox C od) (hs : findIn K (.ref C) "__repr__" = some (some (.ref f))) (hf : isFn K (.ref f) = true) (c : Tells prog w hb f x t) (hl : t.length ≤ 1000000) : Rep prog w hb (.ref x) t where
  call := fun A s Q E a1 a2 a3 a4 g h => by
    refine Calls.call_function_entry PySem.F.kind_repr PySem.F.plain_repr PySem.F.entry_repr (PySem.F.args_repr1 _) ?_
    unfold Builtin.«repr»
    refine wpAny_bind (m := oneArg "repr" _) (wpAny_pure ?_)
    have X' := X.keeps g
    have I' := inst_grow I g
    refine wpAny_bind (wpAny_cRoomFor (units_ok (Nat.succ_le_succ a4) (by decide +kernel)) ?_)
    refine wpAny_bind (wpAny_bind (I'.type.here ((looks_findIn X' hs).here ?_)))
    show wpAny _ _ (if (some (Value.ref f)).isNone = true then _ else _) _ _ _
    rw [if_neg (by simp)]
    refine wpAny_bind (m := callSpecialIfBound? (.ref x) (PySem.Str.ofString "__repr__") _) (ifBound_K X' I' hs hf (c _ _ _ _ a1 (Nat.le_trans a3 (by decide)) (Nat.le_trans (Nat.succ_le_succ a4) (by decide)) g fun h' u tk g' => ?_))
    refine wpAny_bind (wpAny_isInstance (typeIs_str _ _ _) isSubtype_str_str ?_)
    exact wpAny_pure ⟨_, rfl, h h' u tk g'⟩
  obj := fun A s Q E a1 a2 a3 a4 g h => by
    rw [pyReprObj_eq_pyReprObjBy]
    exact by_K (units_ok a4 (by decide +kernel)) (X.keeps g) (inst_grow I g) hs hf (c _ _ _ _ a1 (Nat.le_trans a3 (by decide)) (Nat.le_trans a4 (by decide)) g h)
  under := fun n hn A s Q E a1 a2 a3 a4 g h => by
    unfold pyReprObjUnder
    exact by_K (units_ok a4 (by decide +kernel)) (X.keeps g) (inst_grow I g) hs hf (c _ _ _ _ a1 (Nat.le_trans a3 (by decide)) (Nat.le_trans a4 (by decide)) g h)
  short := hl
theorem repI_inst (X : K.In hb) (I : InstAt hb x ox C od) (hs : findIn K (.ref C) "__repr__" = some (some (.ref f))) (hf : isFn K (.ref f) = true) (c : Tells prog w hb f x t) : RepI prog w hb (.ref x) t := fun base hbs A E s Q a1 a3 a4 g h => by
  refine wpAny_pyReprUnder_ref (by omega) ?_
  unfold pyReprObjUnder
  exact by_K (units_ok a4 (by decide +kernel)) (X.keeps g) (inst_grow I g) hs hf (c _ _ _ _ a1 (Nat.le_trans a3 (by decide)) (Nat.le_trans a4 (by decide)) g fun h' u tk g' => ⟨_, _, rfl, h h' tk g'⟩)
/-- the items of a tuple, one by one -/
inductive RepAll (prog : Program) (w : World) (hb : Heap) : List Value → List PySem.Str → Prop
  | nil : RepAll prog w hb [] []
  | cons {v : Value} {t : PySem.Str} {l : List Value} {ts : List PySem.Str} : RepI prog w hb v t → RepAll prog w hb l ts → RepAll prog w hb (v :: l) (t :: ts)
theorem RepAll.len : ∀ {l : List Value} {ts : List PySem.Str}, RepAll prog w hb l ts → ts.length = l.length
  | _, _, .nil => rfl
  | _, _, .cons _ r => by simp [r.len]
theorem items_told (a1 : A.handled = none) (a3 : A.depth ≤ 850) (a4 : A.units ≤ 4200) : ∀ {l : List Value} {ts : List PySem.Str} (acc : Array PySem.Str) (n : Nat) (s : Shared) (Q : (Array PySem.Str × Nat) → Shared → Prop), RepAll prog w hb l ts → n + piled ts ≤ sizeLine → Grow hb s.heap →
    (∀ h' tk, Grow s.heap h' → Q (acc ++ ts.toArray, n + piled ts) { s with heap := h', toks := tk }) → wpAny (model prog w) A (forIn l (acc, n) tupBody) Q E s := by
  intro l ts acc n s Q r
  induction r generalizing acc n s Q with
  | nil =>
    intro _ _ h
    rw [List.forIn_nil]
    have := h s.heap s.toks (Grow.refl _)
    exact wpAny_pure (by simpa [piled] using this)
  | @cons v t l ts hv r ih =>
    intro hn g h
    have hp : piled (t :: ts) = (t.length + 2) + piled ts := piled_cons t ts
    rw [List.forIn_cons]
    refine wpAny_bind (wpAny_bind (hv (n + 1) (by omega) A E s _ a1 a3 a4 g fun h1 k1 g1 => wpAny_pure ?_))
    refine ih (acc.push t) (n + (t.length + 2)) _ Q (by omega) (g.trans g1) fun h2 k2 g2 => ?_
    have q := h h2 k2 (g1.trans g2)
    rw [show n + piled (t :: ts) = n + (t.length + 2) + piled ts by omega] at q
    simpa using q
theorem tup_own {a : Addr} {o : Obj} {its : Array Value} {n : Nat} {ts : List PySem.Str} (ha : hb.get? a = some o) (hd : o.data = .seq its n) (hT : RepAll prog w hb its.toList ts)
    {R : Result → Shared → Prop} {base : Nat} {id : String} {rest : List Value} (hcu : (A.under (.builtin id ⟨.ref a :: rest, []⟩)).units = A.units + 1)
    (a1 : A.handled = none) (a2 : A.guards = some []) (a3 : A.depth ≤ 800) (a4 : A.units ≤ 4100) (g : Grow hb s.heap)
    (hR : ∀ h' u tk, Grow s.heap h' → R (.ok (.ret (.str (tupleText ts) u))) { s with heap := h', toks := tk }) (hz : base + (tupleText ts).length ≤ sizeLine) (hh : (A.under (.builtin id ⟨.ref a :: rest, []⟩)).handled = A.handled) (hdp : (A.under (.builtin id ⟨.ref a :: rest, []⟩)).depth ≤ A.depth + 1) :
    wpOwn (model prog w) A (.builtin id ⟨.ref a :: rest, []⟩) (Builtin.tupleReprAt base ⟨[.ref a], []⟩) (fun fin s' => match fin with | .done f => R (.ok f) s' | .again c' => c'.quiet = true ∧ codeAny (model prog w) A c' R s') (fun e s' => R (.error e) s') s := by
  have hp := piled_le_tupleText ts
  have hlen : ts.length = its.size := by simpa using hT.len
  rw [tuple_repr_tree, tupleReprUnderWay_eq]
  refine wpOwn_bind (wpOwn_stackTailAny a2 (tupGuardF_off _) (tupGuardF_pos _) ?_)
  refine wpOwn_of_wpAny ?_
  show wpAny _ _ (tupleReprRest base (.ref a)) _ _ s
  unfold tupleReprRest Builtin.Tuple.tupleItemsOf
  refine wpAny_bind (wpAny_bind (wpAny_seqItems (g _ _ ha) hd (wpAny_pure ?_)))
  rw [← Array.forIn_toList]
  refine wpAny_bind (items_told (hh.trans a1) (by omega) (by rw [hcu]; omega) _ _ _ _ hT (by omega) g fun h' tk g' => ?_)
  refine wpAny_bind (wpAny_mkStr (wpAny_pure ?_) (by simpa [tupleText, hlen] using (by omega : (tupleText ts).length ≤ sizeLine)))
  have q := hR h' tk (tk + 1) g'
  simpa [tupleText, hlen] using q
theorem wt_tup (args : Args) : (Code.builtin "tuple.__repr__" args).weight = 1 := by kernel_rfl
theorem wt_tupU (args : Args) : (Code.builtin "tuple.__repr__.under" args).weight = 1 := by kernel_rfl
theorem dep_tup (A : Around) (args : Args) : (A.under (.builtin "tuple.__repr__" args)).depth ≤ A.depth + 1 := by
  show A.depth + Code.weight _ ≤ _
  rw [wt_tup]; omega
theorem dep_tupU (A : Around) (args : Args) : (A.under (.builtin "tuple.__repr__.under" args)).depth ≤ A.depth + 1 := by
  show A.depth + Code.weight _ ≤ _
  rw [wt_tupU]; omega
theorem rep_tup {a : Addr} {o : Obj} {its : Array Value} {n : Nat} {ts : List PySem.Str} (ha : hb.get? a = some o) (hc : o.cls = .type "tuple") (hd : o.data = .seq its n) (hT : RepAll prog w hb its.toList ts) (hl : (tupleText ts).length ≤ 1000000) : Rep prog w hb (.ref a) (tupleText ts) := by
  have hz := sizeLine_eq
  have direct : ∀ (A : Around) (s : Shared) (Q E : Value → Shared → Prop), A.handled = none → A.guards = some [] → A.depth ≤ 800 → A.units ≤ 4100 → Grow hb s.heap →
      (∀ h' u tk, Grow s.heap h' → Q (.str (tupleText ts) u) { s with heap := h', toks := tk }) → wpAny (model prog w) A (PySem.call (.builtin "tuple.__repr__") [.ref a]) Q E s := fun A s Q E a1 a2 a3 a4 g h =>
    wpAny_call (codeAny_call_builtin_own (Code.quiet_builtin _ (by decide +kernel)) F.entry_tuple_repr (F.slot_tuple_repr.check _ _ _ _ _ _ _ _ ⟨o, g _ _ ha, hc⟩ (F.args_tuple_repr_1 _)
      (tup_own (base := 0) (R := callEnd Q E) ha hd hT (units_under_tuple_repr _ _) a1 a2 a3 a4 g h (by omega) rfl (dep_tup _ _))))
  refine ⟨fun A s Q E a1 a2 a3 a4 g h => ?_, fun A s Q E a1 a2 a3 a4 g h => ?_, fun m hm A s Q E a1 a2 a3 a4 g h => ?_, hl⟩
  · have hTy : s.TypeIs (.ref a) "tuple" := ⟨o, g _ _ ha, hc⟩
    refine Calls.call_function_entry PySem.F.kind_repr PySem.F.plain_repr PySem.F.entry_repr (PySem.F.args_repr1 _) ?_
    unfold Builtin.«repr»
    refine wpAny_bind (m := oneArg "repr" _) (wpAny_pure ?_)
    refine wpAny_bind (wpAny_cRoomFor (units_ok (Nat.succ_le_succ a4) (by decide +kernel)) ?_)
    refine wpAny_bind (wpAny_specialOf (name := PySem.Str.ofString "__repr__") hTy F.slot_tuple_repr.lookup ?_)
    refine wpAny_bind (m := callSpecialIfBound? (.ref a) (PySem.Str.ofString "__repr__") _) (wpAny_callSpecialIfBound?_slotG (name := PySem.Str.ofString "__repr__") hTy F.slot_tuple_repr
      (direct _ _ _ _ a1 a2 a3 (Nat.le_trans (Nat.succ_le_succ a4) (by decide)) g fun h' u tk g' => ?_))
    exact wpAny_bind (wpAny_isInstance (T := "str") (b := true) rfl isSubtype_str_str (wpAny_pure ⟨_, rfl, h h' u tk g'⟩))
  · have hTy : s.TypeIs (.ref a) "tuple" := ⟨o, g _ _ ha, hc⟩
    unfold pyReprObj
    refine wpAny_bind (wpAny_cRoomFor (units_ok a4 (by decide +kernel)) ?_)
    refine wpAny_bind (wpAny_specialOf (name := PySem.Str.ofString "__repr__") hTy F.slot_tuple_repr.lookup ?_)
    refine wpAny_bind (m := callSpecialIfBound? (.ref a) (PySem.Str.ofString "__repr__")) (wpAny_callSpecialIfBound?_slotG (name := PySem.Str.ofString "__repr__") hTy F.slot_tuple_repr
      (direct _ _ _ _ a1 a2 a3 (Nat.le_trans a4 (by decide)) g fun h' u tk g' => ?_))
    exact wpAny_bind (wpAny_isInstance (T := "str") (b := true) rfl isSubtype_str_str (wpAny_pure (h h' u tk g')))
  · exact wpAny_pyReprObjUnder_twin (twin := "tuple.__repr__.under") ⟨o, g _ _ ha, hc⟩ F.slot_tuple_repr rfl (units_ok a4 (by decide +kernel))
      (call_twin_own (F.quiet_tuple_repr_under _) F.entry_tuple_repr_under F.check_tuple_repr_under ⟨o, g _ _ ha, hc⟩ F.slot_tuple_repr (F.args_tuple_repr_1 _)
        (tup_own (R := callEnd _ E) ha hd hT (units_under_tuple_repr_under _ _) a1 a2 a3 (Nat.le_trans a4 (by decide)) g (fun h' u tk g' => ⟨⟨_, _, rfl⟩, h h' u tk g'⟩) (by omega) rfl (dep_tupU _ _)))
end
end Mine
end
section
open PySem PySem.W PySem.Calls PyProof.Rows Builtin Builtin.List
set_option Elab.async false
set_option maxRecDepth 100000
set_option maxHeartbeats 4000000
namespace Mine
def partsObj (acc : Array Value) (c : Nat) : Obj := { cls := .type "list", dict := none, data := .seq acc c, slots := #[] }
theorem wt_loop (args : Args) : (Code.builtin "list.__repr__.loop" args).weight = 1 := by kernel_rfl
section
variable {prog : Program} {w : World} {A : Around} {E : Value → Shared → Prop} {s : Shared} {hb : Heap} {R : Result → Shared → Prop}
/-- one item of a list is written -/
theorem loop_item {a P : Addr} {its acc : Array Value} {na c i b : Nat} {v : Value} {t : PySem.Str} {oa : Obj} (hv : its[i]? = some v) (r : RepI prog w hb v t) (a1 : A.handled = none) (a3 : A.depth ≤ 800) (a4 : A.units ≤ 4100)
    (g : Grow hb s.heap) (hP0 : hb.get? P = none) (ha : hb.get? a = some oa) (hda : oa.data = .seq its na) (hP : s.heap.get? P = some (partsObj acc c)) (hbt : b + 1 + t.length ≤ sizeLine) (hac : acc.size ≤ 1000)
    (next : ∀ h' tk c', Grow hb h' → (∀ q o, q ≠ P → s.heap.get? q = some o → h'.get? q = some o) → h'.get? P = some (partsObj (acc.push (.str t tk)) c') →
      codeAny (model prog w) A (.builtin "list.__repr__.loop" ⟨[.ref a, rawInt ((i + 1 : Nat) : Int), .ref P, rawInt ((b + (t.length + 2) : Nat) : Int)], []⟩) R { s with heap := h', toks := tk + 1 }) :
    codeAny (model prog w) A (.builtin "list.__repr__.loop" ⟨[.ref a, rawInt (i : Int), .ref P, rawInt (b : Int)], []⟩) R s := by
  have hz := sizeLine_eq
  refine codeAny_builtin F.entry_list_repr_loop ?_
  show wpAny _ _ («list.__repr__.loop» ⟨[.ref a, .int i 0, .ref P, .int (b : Int) 0], []⟩) _ _ s
  rw [repr_loop_tree]
  refine wpAny_bind (wpAny_listItems (g _ _ ha) hda ?_)
  simp only [Int.toNat_natCast, hv]
  refine wpAny_bind (wpAny_holding (r (b + 1) hbt _ _ _ _ a1 ?_ (by rw [units_under_list_loop]; omega) g fun h1 k1 g1 => ?_))
  · show A.depth + Code.weight _ ≤ _
    rw [wt_loop]; omega
  refine wpAny_bind (wpAny_mkStr ?_ (by omega))
  refine wpAny_bind ?_
  show wpAny _ _ (updateSeq P _) _ _ _
  refine wpAny_updateSeq (g1 _ _ hP) rfl (wpAny_pure ⟨F.quiet_list_repr_loop _, ?_⟩) (by omega)
  have e1 : ((i : Int) + 1) = ((i + 1 : Nat) : Int) := by omega
  rw [e1]
  exact next _ k1 _ (fun q o e => (Heap.get?_update_other _ _ (fun z : P = q => by rw [← z, hP0] at e; cases e)).trans (g1 _ _ (g _ _ e)))
    (fun q o hq e => (Heap.get?_update_other _ _ (fun z : P = q => hq z.symm)).trans (g1 _ _ e)) (Heap.get?_update_self _ (g1 _ _ hP) rfl)
/-- all of them are -/
theorem loop_done {a P : Addr} {its : Array Value} {na c i b : Nat} {oa : Obj} {done : List (PySem.Str × Tok)} {T : PySem.Str} (hv : its[i]? = none) (g : Grow hb s.heap) (ha : hb.get? a = some oa) (hda : oa.data = .seq its na) (hP : s.heap.get? P = some (partsObj (strValues done).toArray c))
    (hT : listText (done.map (·.1)) = T) (hl : T.length ≤ sizeLine) (hR : ∀ u tk, R (.ok (.ret (.str T u))) { s with toks := tk }) :
    codeAny (model prog w) A (.builtin "list.__repr__.loop" ⟨[.ref a, rawInt (i : Int), .ref P, rawInt (b : Int)], []⟩) R s := by
  subst hT
  refine codeAny_builtin F.entry_list_repr_loop ?_
  show wpAny _ _ («list.__repr__.loop» ⟨[.ref a, .int i 0, .ref P, .int (b : Int) 0], []⟩) _ _ s
  rw [repr_loop_tree]
  refine wpAny_bind (wpAny_listItems (g _ _ ha) hda ?_)
  simp only [Int.toNat_natCast, hv]
  unfold reprEnd
  refine wpAny_bind (wpAny_listItems hP rfl ?_)
  rw [show (strValues done).toArray.toList = strValues done by simp, repr_fold]
  refine wpAny_bind (wpAny_pure ?_)
  exact wpAny_bind (wpAny_mkStr (wpAny_pure (hR _ _)) hl)
/-- a list of two is written -/
theorem two_told {a : Addr} {na base : Nat} {v1 v2 : Value} {t1 t2 : PySem.Str} {oa : Obj} (r1 : RepI prog w hb v1 t1) (r2 : RepI prog w hb v2 t2) (ha : hb.get? a = some oa) (hda : oa.data = .seq #[v1, v2] na) (a1 : A.handled = none) (a2 : A.guards = some []) (a3 : A.depth ≤ 800) (a4 : A.units ≤ 4100) (g : Grow hb s.heap)
    (l1 : t1.length ≤ 100000) (l2 : t2.length ≤ 100000) (hbs : base ≤ 2000000)
    (hR : ∀ h' u tk, Grow s.heap h' → R (.ok (.ret (.str (listText [t1, t2]) u))) { s with heap := h', toks := tk }) :
    wpAny (model prog w) A.in1 (Builtin.listReprAt base ⟨[.ref a], []⟩) (fun fin s' => match fin with | .done f => R (.ok f) s' | .again c' => c'.quiet = true ∧ codeAny (model prog w) A c' R s') (fun e s' => R (.error e) s') s := by
  have hz := sizeLine_eq
  have hP0 : hb.get? s.heap.objs.size = none := by
    cases e : hb.get? s.heap.objs.size with
    | none => rfl
    | some o => exact absurd (Heap.lt_size (g _ _ e)) (Nat.lt_irrefl _)
  refine wpAny_list_repr_head (A := A.in1) a2 (fun v rest kw hm => nomatch hm) (g _ _ ha) (x := v1) (l := [v2]) hda ?_
  refine wpAny_bind (m := newList []) (wpAny_newObj_type ?_)
  refine wpAny_pure ⟨F.quiet_list_repr_loop _, ?_⟩
  refine loop_item (i := 0) (its := #[v1, v2]) (v := v1) (acc := #[]) rfl r1 a1 a3 a4 (fun b o e => Heap.get?_push_of_some _ (g _ _ e)) hP0 ha hda (Heap.get?_push_size _ rfl) (by omega) (by decide) fun h1 k1 c1 g1 q1 p1 => ?_
  refine loop_item (i := 1) (its := #[v1, v2]) (v := v2) rfl r2 a1 a3 a4 g1 hP0 ha hda p1 (by omega) (by simp) fun h2 k2 c2 g2 q2 p2 => ?_
  refine loop_done (i := 2) (its := #[v1, v2]) (done := [(t1, k1), (t2, k2)]) rfl g2 ha hda p2 rfl ?_ fun u tk => hR _ _ _ fun b o e => ?_
  · have h := textFrom_len [t1, t2] 0 "["
    show (textFrom 0 "[" [t1, t2] ++ "]").length ≤ _
    rw [strLen_append]
    have e1 : (textFrom 0 "[" [t1, t2]).length ≤ 200100 := by
      show ((("[" : PySem.Str) ++ (if (0 : Nat) > 0 then ", " else "" : String) ++ t1) ++ (if (0 : Nat) + 1 > 0 then ", " else "" : String) ++ t2).length ≤ _
      simp only [strLen_append]
      have x1 : (PySem.Str.ofString "[").length = 1 := rfl
      have x2 : (PySem.Str.ofString (if (0 : Nat) > 0 then ", " else "" : String)).length = 0 := rfl
      have x3 : (PySem.Str.ofString (if (0 : Nat) + 1 > 0 then ", " else "" : String)).length = 2 := rfl
      omega
    have e2 : (PySem.Str.ofString "]").length = 1 := rfl
    omega
  · have hne : b ≠ s.heap.objs.size := Nat.ne_of_lt (Heap.lt_size e)
    exact q2 b o hne (q1 b o hne (Heap.get?_push_of_some _ e))
theorem rep_list2 {a : Addr} {na : Nat} {v1 v2 : Value} {t1 t2 : PySem.Str} {oa : Obj} (r1 : RepI prog w hb v1 t1) (r2 : RepI prog w hb v2 t2) (ha : hb.get? a = some oa) (hc : oa.cls = .type "list") (hda : oa.data = .seq #[v1, v2] na)
    (l1 : t1.length ≤ 100000) (l2 : t2.length ≤ 100000) (hl : (listText [t1, t2]).length ≤ 1000000) : Rep prog w hb (.ref a) (listText [t1, t2]) := by
  have hz := sizeLine_eq
  have direct : ∀ (A : Around) (s : Shared) (Q E : Value → Shared → Prop), A.handled = none → A.guards = some [] → A.depth ≤ 800 → A.units ≤ 4100 → Grow hb s.heap →
      (∀ h' u tk, Grow s.heap h' → Q (.str (listText [t1, t2]) u) { s with heap := h', toks := tk }) → wpAny (model prog w) A (PySem.call (.builtin "list.__repr__") [.ref a]) Q E s := fun A s Q E a1 a2 a3 a4 g h =>
    wpAny_call (codeAny_call_builtin F.slot_list_repr.plain F.entry_list_repr (F.slot_list_repr.check _ _ _ _ _ _ _ _ ⟨oa, g _ _ ha, hc⟩ (F.args_list_repr_1 _)
      (two_told (base := 0) (R := callEnd Q E) r1 r2 ha hda a1 a2 a3 a4 g l1 l2 (by decide) h)))
  refine ⟨fun A s Q E a1 a2 a3 a4 g h => ?_, fun A s Q E a1 a2 a3 a4 g h => ?_, fun m hm A s Q E a1 a2 a3 a4 g h => ?_, hl⟩
  · have hTy : s.TypeIs (.ref a) "list" := ⟨oa, g _ _ ha, hc⟩
    refine Calls.call_function_entry PySem.F.kind_repr PySem.F.plain_repr PySem.F.entry_repr (PySem.F.args_repr1 _) ?_
    unfold Builtin.«repr»
    refine wpAny_bind (m := oneArg "repr" _) (wpAny_pure ?_)
    refine wpAny_bind (wpAny_cRoomFor (units_ok (Nat.succ_le_succ a4) (by decide +kernel)) ?_)
    refine wpAny_bind (wpAny_specialOf (name := PySem.Str.ofString "__repr__") hTy F.slot_list_repr.lookup ?_)
    refine wpAny_bind (m := callSpecialIfBound? (.ref a) (PySem.Str.ofString "__repr__") _) (wpAny_callSpecialIfBound?_slot (name := PySem.Str.ofString "__repr__") hTy F.slot_list_repr
      (direct _ _ _ _ a1 a2 a3 (Nat.le_trans (Nat.succ_le_succ a4) (by decide)) g fun h' u tk g' => ?_))
    exact wpAny_bind (wpAny_isInstance (T := "str") (b := true) rfl isSubtype_str_str (wpAny_pure ⟨_, rfl, h h' u tk g'⟩))
  · have hTy : s.TypeIs (.ref a) "list" := ⟨oa, g _ _ ha, hc⟩
    unfold pyReprObj
    refine wpAny_bind (wpAny_cRoomFor (units_ok a4 (by decide +kernel)) ?_)
    refine wpAny_bind (wpAny_specialOf (name := PySem.Str.ofString "__repr__") hTy F.slot_list_repr.lookup ?_)
    refine wpAny_bind (m := callSpecialIfBound? (.ref a) (PySem.Str.ofString "__repr__")) (wpAny_callSpecialIfBound?_slot (name := PySem.Str.ofString "__repr__") hTy F.slot_list_repr
      (direct _ _ _ _ a1 a2 a3 (Nat.le_trans a4 (by decide)) g fun h' u tk g' => ?_))
    exact wpAny_bind (wpAny_isInstance (T := "str") (b := true) rfl isSubtype_str_str (wpAny_pure (h h' u tk g')))
  · exact wpAny_pyReprObjUnder_twin (twin := "list.__repr__.under") ⟨oa, g _ _ ha, hc⟩ F.slot_list_repr.toG rfl (units_ok a4 (by decide +kernel))
      (call_twin_plain F.plain_list_repr_under F.entry_list_repr_under F.check_list_repr_under ⟨oa, g _ _ ha, hc⟩ F.slot_list_repr.toG (F.args_list_repr_1 _)
        (two_told (R := callEnd _ E) r1 r2 ha hda a1 a2 a3 (Nat.le_trans a4 (by decide)) g l1 l2 hm (fun h' u tk g' => ⟨⟨_, _, rfl⟩, h h' u tk g'⟩)))
end
end Mine
end
section
open PySem PySem.W PySem.Calls PyProof.Rows Builtin Builtin.Str
set_option Elab.async false
set_option maxRecDepth 100000
set_option maxHeartbeats 4000000
namespace Mine
section
variable {prog : Program} {w : World} {A : Around} {E : Value → Shared → Prop} {s : Shared} {h₀ hb : Heap} {a : Addr} {d : PyData} {as : List Addr}
theorem leaf_units (h : A.units ≤ 4000) : A.units < cLine := Nat.lt_of_le_of_lt h (Nat.le_of_ble_eq_true rfl)
theorem rep_int {n : Int} {t : Tok} (hn : n.natAbs.log2 < 1920) (hl : (Str.ofString (toString n)).length ≤ 1000000) : Rep prog w hb (.int n t) (toString n) where
  call := fun A s Q E _ _ _ _ _ h => P.repr_of_int hn (h s.heap _ _ fun _ _ e => e)
  obj := fun A s Q E _ _ _ _ _ h => pyReprObj_int hn (h s.heap _ _ fun _ _ e => e)
  under := fun n _ A s Q E _ _ _ hu _ h => under_leaf (typeIs_int s _ _) F.slot_int_repr.toG rfl (leaf_units hu) (call_gives F.slot_int_repr (typeIs_int s _ _) F.entry_int_repr (F.args_int_repr_1 _) (gives_int_repr _ _ hn) ⟨Nat.le_trans hl (by rw [sizeLine_eq]; decide), ⟨_, _, rfl⟩, h s.heap _ _ fun _ _ e => e⟩)
  short := hl
theorem rep_bool (b : Bool) : Rep prog w hb (.bool b) (if b then "True" else "False") where
  call := fun A s Q E _ _ _ _ _ h => P.repr_of_bool (h s.heap _ _ fun _ _ e => e)
  obj := fun A s Q E _ _ _ _ _ h => pyReprObj_bool (h s.heap _ _ fun _ _ e => e)
  under := fun n _ A s Q E _ _ _ hu _ h => under_leaf (PySem.typeIs_bool s b) F.slot_bool_repr.toG rfl (leaf_units hu) (call_gives F.slot_bool_repr (PySem.typeIs_bool s b) F.entry_bool_repr (F.args_bool_repr_1 _) (gives_bool_repr b) ⟨by rw [sizeLine_eq]; cases b <;> decide +kernel, ⟨_, _, rfl⟩, h s.heap _ _ fun _ _ e => e⟩)
  short := by cases b <;> decide +kernel
theorem rep_none : Rep prog w hb .none "None" where
  call := fun A s Q E _ _ _ _ _ h => P.repr_of_none (h s.heap _ _ fun _ _ e => e)
  obj := fun A s Q E _ _ _ _ _ h => pyReprObj_none (h s.heap _ _ fun _ _ e => e)
  under := fun n _ A s Q E _ _ _ hu _ h => under_leaf (typeIs_none s) F.slot_NoneType_repr.toG rfl (leaf_units hu) (call_gives F.slot_NoneType_repr (typeIs_none s) F.entry_NoneType_repr (F.args_NoneType_repr_1 _) gives_none_repr ⟨by rw [sizeLine_eq]; decide +kernel, ⟨_, _, rfl⟩, h s.heap _ _ fun _ _ e => e⟩)
  short := by decide +kernel
theorem under_reads {base : Nat} {Q : Value → Shared → Prop} (r : Reads h₀ (.ref a) d as) (hs : d.showable = true) (hsm : sysModules ∉ as) (hz : base + d.shown.length ≤ sizeLine) (hg : A.guards = some []) (hu : A.units + d.depth < cLine) (hk0 : ∀ b o, h₀.get? b = some o → s.heap.get? b = some o)
    (hQ : ∀ h' u tk, (∀ b o, s.heap.get? b = some o → h'.get? b = some o) → Q (.str d.shown u) { s with heap := h', toks := tk }) : wpAny (model prog w) A (pyReprObjUnder base (.ref a)) Q E s := by
  cases r with
  | list h1 h2 h3 h4 =>
    rename_i o vs n xs bs₀
    have hz' : base + (listText (PyData.shownAll xs)).length ≤ sizeLine := by simpa only [PyData.shown] using hz
    obtain ⟨bs, hb, hk⟩ := ReprAllK.of_readsAll (prog := prog) (w := w) h4 (by simpa [PyData.showable] using hs) (fun _ hm => hsm (List.mem_cons_of_mem _ hm)) (fun t ht => Nat.le_trans (listText_mem_le ht) (by omega))
    have hna : a ∉ bs := not_mem_of_deeper (.list h1 h2 h3 h4) (by simp only [PyData.depth]; omega) hb
    simp only [PyData.depth] at hu
    simp only [PyData.shown] at hQ
    obtain ⟨l⟩ := vs
    cases l with
    | nil =>
      have h4' : ReadsAll h₀ [] xs _ := h4
      cases h4'
      simp only [PyData.shownAll, listText_nil] at hQ
      exact wpAny_pyReprObjUnder_list_empty ⟨_, hk0 _ _ h1, h2⟩ (by omega) (hk0 _ _ h1) h3 (hQ s.heap _ _ fun _ _ e => e)
    | cons x l =>
      exact wpAny_pyReprObjUnder_listK h1 h2 h3 hna (by simpa using hk.length_eq) (fun i y e => hk.item i y (by simpa using e)) hg (fun b _ => Clear.nil b) hu hk0 hQ hz'
  | tuple h1 h2 h3 h4 =>
    rename_i o vs n xs
    have hz' : base + (tupleText (PyData.shownAll xs)).length ≤ sizeLine := by simpa only [PyData.shown] using hz
    obtain ⟨bs, hb, hk⟩ := ReprAllK.of_readsAll (prog := prog) (w := w) h4 (by simpa [PyData.showable] using hs) (fun _ => hsm) (fun t ht => Nat.le_trans (tupleText_mem_le ht) (by omega))
    have hna : a ∉ bs := not_mem_of_deeper (.tuple h1 h2 h3 h4) (by simp only [PyData.depth]; omega) hb
    simp only [PyData.depth] at hu
    simp only [PyData.shown] at hQ
    exact wpAny_pyReprObjUnder_tupleK h1 h2 h3 hna hk hg (fun b _ => Clear.nil b) hu hk0 hQ hz'
  | dict h1 h2 h3 h4 h5 =>
    rename_i o es n kvs as₁ bs₁
    have hz' : base + (dictText (PyData.shownKv kvs)).length ≤ sizeLine := by simpa only [PyData.shown] using hz
    have hno : sysModules ∉ a :: as₁ ++ bs₁ := hsm
    obtain ⟨hs1, hs2⟩ := PyData.showableKv_split kvs (by simpa [PyData.showable] using hs)
    obtain ⟨b1, hb1, k1⟩ := ReprAllK.of_readsAll (prog := prog) (w := w) h4 hs1 (fun _ hm => hno (List.mem_cons_of_mem _ (List.mem_append_left _ hm))) (fun t ht => let ⟨p, hp, hl⟩ := PyData.shownKv_key_le kvs t ht; Nat.le_trans hl (Nat.le_trans (dictText_mem_le hp) (by omega)))
    obtain ⟨b2, hb2, k2⟩ := ReprAllK.of_readsAll (prog := prog) (w := w) h5 hs2 (fun _ hm => hno (List.mem_cons_of_mem _ (List.mem_append_right _ hm))) (fun t ht => let ⟨p, hp, hl⟩ := PyData.shownKv_val_le kvs t ht; Nat.le_trans hl (Nat.le_trans (dictText_mem_le hp) (by omega)))
    have hb : ReadAtMost h₀ (PyData.depthKv kvs) (b1 ++ b2) := (hb1.mono (PyData.depthAll_keys_le kvs)).append (hb2.mono (PyData.depthAll_vals_le kvs))
    have hna : a ∉ b1 ++ b2 := not_mem_of_deeper (.dict h1 h2 h3 h4 h5) (by simp only [PyData.depth]; omega) hb
    have hsys : (a == sysModules) = false := beq_eq_false_iff_ne.mpr fun e => hno (e ▸ List.mem_cons_self ..)
    simp only [PyData.depth] at hu
    simp only [PyData.shown, PyData.shownKv_eq] at hQ
    exact wpAny_pyReprObjUnder_dictK h1 h2 h3 hsys hna (ReprEntriesK.of_two es.toList _ _
      (k1.more_le (fun b hb => List.mem_append_left _ hb) (PyData.depthAll_keys_le kvs)) (k2.more_le (fun b hb => List.mem_append_right _ hb) (PyData.depthAll_vals_le kvs))) hg (fun b _ => Clear.nil b) hu hk0 hQ (by rw [← PyData.shownKv_eq]; exact hz')
/-- what a heap reads as data, repr writes so -/
theorem rep_reads {v : Value} (r : Reads hb v d as) (hs : d.showable = true) (hsm : sysModules ∉ as) (hl : d.shown.length ≤ 100000) (hd : d.depth ≤ 100) : Rep prog w hb v d.shown := by
  have hz := sizeLine_eq
  have hc : 4200 < cLine := Nat.le_of_ble_eq_true rfl
  cases hv : v with
  | ref a =>
    subst hv
    exact ⟨fun A s Q E a1 a2 a3 a4 g h => repr_of_reads' r hs (fun _ => hsm) a2 (by omega) g h (by omega), fun A s Q E a1 a2 a3 a4 g h => pyReprObj_of_reads r hs (fun _ => hsm) a2 (by omega) g h (by omega),
      fun n hn A s Q E a1 a2 a3 a4 g h => under_reads r hs hsm (by omega) a2 (by omega) g h, by omega⟩
  | _ =>
    subst hv
    cases r
    all_goals (simp only [PyData.shown] at hl ⊢; first | exact rep_none | exact rep_bool _ | exact rep_str (by omega) | exact rep_int (by simpa [PyData.showable] using hs) (Nat.le_trans hl (by decide)))
end
end Mine
end
section
open PySem PySem.W PySem.Calls PyProof.Rows
set_option Elab.async false
set_option maxRecDepth 100000
set_option maxHeartbeats 4000000
namespace Mine
theorem sapp (a b c : Str) : a ++ b ++ c = a ++ (b ++ c) := by
  have e : (a ++ b ++ c).cps = (a ++ (b ++ c)).cps := by simp only [PySem.Str.cps_append, Array.append_assoc]
  exact congrArg PySem.Str.mk e
theorem tj0 (l : List Str) : Txt.join (Str.ofString "") l = Str.join (Str.ofString "") l := by
  unfold Txt.join
  rw [StrLaws.glued_eq_join]
theorem tj1 (x : Str) : Txt.join (Str.ofString "") [x] = x := by rw [tj0]; rfl
theorem tjc (x y : Str) (r : List Str) : Txt.join (Str.ofString "") (x :: y :: r) = x ++ Txt.join (Str.ofString "") (y :: r) := by
  rw [tj0, tj0]
  show x ++ Str.ofString "" ++ Str.join (Str.ofString "") (y :: r) = _
  rw [KFm.cat_t]
theorem lit_s : Str.ofString "]: " ++ Str.ofString "section " = Str.ofString "]" ++ Str.ofString ": section " := by decide +kernel
theorem lit_o : Str.ofString "]: " ++ Str.ofString "option " = Str.ofString "]" ++ Str.ofString ": option " := by decide +kernel
theorem tx60a (r : Str) : Txt.join (Str.ofString "") [Str.ofString "Section ", r, Str.ofString " already exists"] = Str.ofString "Section " ++ (r ++ Str.ofString " already exists") := by
  simp only [tjc, tj1]
theorem tx80a (o r : Str) : Txt.join (Str.ofString "") [Str.ofString "Option ", o, Str.ofString " in section ", r, Str.ofString " already exists"] = Str.ofString "Option " ++ (o ++ Str.ofString " in section " ++ (r ++ Str.ofString " already exists")) := by
  simp only [tjc, tj1, sapp]
theorem tx60b (rc r : Str) (n : Int) : Txt.join (Str.ofString "") [Str.ofString "While reading from ", rc, lineText n, Str.ofString ": section ", r, Str.ofString " already exists"] =
    Str.ofString "While reading from " ++ rc ++ Str.ofString " [line " ++ fig2 n ++ Str.ofString "]: " ++ Str.ofString "section " ++ (r ++ Str.ofString " already exists") := by
  rw [sapp _ (Str.ofString "]: "), lit_s]
  simp only [tjc, tj1, sapp, lineText]
theorem tx80b (rc o r : Str) (n : Int) : Txt.join (Str.ofString "") [Str.ofString "While reading from ", rc, lineText n, Str.ofString ": option ", o, Str.ofString " in section ", r, Str.ofString " already exists"] =
    Str.ofString "While reading from " ++ rc ++ Str.ofString " [line " ++ fig2 n ++ Str.ofString "]: " ++ Str.ofString "option " ++ (o ++ Str.ofString " in section " ++ (r ++ Str.ofString " already exists")) := by
  rw [sapp _ (Str.ofString "]: "), lit_o]
  simp only [tjc, tj1, sapp, lineText]
end Mine
end
section
open PySem PySem.W PySem.Calls PyProof.Rows
set_option Elab.async false
set_option maxRecDepth 100000
set_option maxHeartbeats 1000000
namespace Mine
def Inv05 (pre : List Int) (line : Int) (figures : Str) : Prop := 0 ≤ line ∧ figures.length ≤ pre.length ∧ line < 10 ^ pre.length ∧ (pre ≠ [] → figures = Str.ofString (toString line)) ∧ (pre = [] → line = 0)
theorem inv05_0 : Inv05 [] 0 (Str.ofString "") := ⟨by decide, by decide, by decide, fun h => absurd rfl h, fun _ => rfl⟩
theorem item_fig : ∀ d : Fin 10, Txt.item (Str.ofString "0123456789") (d.val : Int) = ⟨#[48 + d.val]⟩ := by decide +kernel
theorem dig_fig : ∀ d : Fin 10, (Nat.toDigits 10 d.val).map Char.toNat = [48 + d.val] := by decide +kernel
theorem fig_step {m d : Nat} (hm : 0 < m) (hd : d < 10) : Str.ofString (toString (Int.ofNat m)) ++ (⟨#[48 + d]⟩ : Str) = Str.ofString (toString (Int.ofNat (m * 10 + d))) := by
  rw [text_ofNat, text_ofNat, Nat.mul_comm m 10, ← Nat.toDigits_append_toDigits (by decide) hm hd, List.map_append, dig_fig ⟨d, hd⟩]
  apply congrArg PySem.Str.mk
  simp
theorem fig_one {d : Nat} (hd : d < 10) : (⟨#[48 + d]⟩ : Str) = Str.ofString (toString (Int.ofNat d)) := by
  rw [text_ofNat, dig_fig ⟨d, hd⟩]
theorem step05 {pre : List Int} {line : Int} {figures fig : Str} {n : Int} (hI : Inv05 pre line figures) (h1 : line = 0 → fig = Str.ofString "") (h2 : line ≠ 0 → fig = figures) : Inv05 (pre ++ [n]) (line * 10 + (if n < 0 then -n else n).fmod 10) (fig ++ Txt.item (Str.ofString "0123456789") ((if n < 0 then -n else n).fmod 10)) := by
  obtain ⟨i1, i2, i3, i4, i5⟩ := hI
  have d0 := Int.fmod_nonneg_of_pos (if n < 0 then -n else n) (b := 10) (by decide)
  have d1 := Int.fmod_lt_of_pos (if n < 0 then -n else n) (b := 10) (by decide)
  generalize (if n < 0 then -n else n).fmod 10 = d at *
  obtain ⟨d, rfl⟩ := Int.eq_ofNat_of_zero_le d0
  have hd : d < 10 := by omega
  rw [item_fig ⟨d, hd⟩]
  obtain ⟨m, rfl⟩ := Int.eq_ofNat_of_zero_le i1
  have hl : (⟨#[48 + d]⟩ : Str).length = 1 := rfl
  refine ⟨by omega, ?_, ?_, fun _ => ?_, fun h => by simp at h⟩
  · rw [PySem.Str.length_append, hl, List.length_append]
    by_cases hm : (m : Int) = 0
    · rw [h1 hm]
      have h0 : (Str.ofString "").length = 0 := rfl
      simp [h0]
    · rw [h2 hm]; simpa using i2
  · rw [List.length_append, List.length_singleton, Int.pow_succ]; omega
  · by_cases hm : (m : Int) = 0
    · rw [h1 hm, hm]
      have e0 : Str.ofString "" = PySem.Str.empty := rfl
      rw [e0, KFm.cat_e]
      have := fig_one hd
      simpa using this
    · have hp : pre ≠ [] := fun e => hm (i5 e)
      rw [h2 hm, i4 hp]
      have := fig_step (m := m) (by omega) hd
      simpa using this
theorem nd_pos {m : Nat} : numDigits (Int.ofNat m) = (Nat.toDigits 10 m).map Char.toNat := by
  unfold numDigits
  rw [if_neg (by simp)]
  rfl
theorem mul_sp (k : Int) (hk : k ≤ 2) : Txt.mul (Str.ofString " ") k = ⟨(List.replicate k.toNat 32).toArray⟩ := by
  by_cases h0 : k < 1
  · have : k.toNat = 0 := by omega
    rw [this]; unfold Txt.mul; rw [if_pos h0]; rfl
  · rcases (by omega : k = 1 ∨ k = 2) with rfl | rfl
    · rfl
    · rfl
theorem told05 {pre : List Int} {line : Int} {fig : Str} {n : Int} (hI : Inv05 (pre ++ [n]) line fig) : Txt.mul (Str.ofString " ") (2 - (fig.length : Int)) ++ fig = fig2 line := by
  obtain ⟨i1, i2, i3, i4, i5⟩ := hI
  have hf := i4 (by simp)
  obtain ⟨m, rfl⟩ := Int.eq_ofNat_of_zero_le i1
  have hf' : fig = ⟨((Nat.toDigits 10 m).map Char.toNat).toArray⟩ := hf.trans (text_ofNat m)
  have hl : fig.length = ((Nat.toDigits 10 m).map Char.toNat).length := by rw [hf']; simp [PySem.Str.length]
  rw [mul_sp _ (by omega), hl, hf']
  unfold fig2
  rw [show numDigits (m : Int) = _ from nd_pos]
  apply congrArg PySem.Str.mk
  have e : (2 - (((Nat.toDigits 10 m).map Char.toNat).length : Int)).toNat = 2 - ((Nat.toDigits 10 m).map Char.toNat).length := by omega
  rw [e]
  simp
theorem numDigits_len {n : Int} (h : n.natAbs < 10 ^ 41) : (numDigits n).length ≤ 42 := by
  have h1 := digits10_le (k := 41) (by decide) h
  unfold numDigits
  rw [List.length_append, List.length_map]
  split <;> simp <;> omega
theorem fig2_len {n : Int} (h : n.natAbs < 10 ^ 41) : (fig2 n).length ≤ 44 := by
  have h1 := numDigits_len h
  unfold fig2
  simp only [PySem.Str.length, List.size_toArray, List.length_append, List.length_replicate]
  omega
theorem log2_ok {n : Int} (h : n.natAbs < 10 ^ 41) : n.natAbs.log2 < 1920 := by
  by_cases h0 : n.natAbs = 0
  · rw [h0]; decide
  · exact Nat.lt_of_lt_of_le ((Nat.log2_lt h0).mpr (Nat.lt_trans h (by decide : 10 ^ 41 < 2 ^ 200))) (by decide)
theorem abs05 {pre : List Int} {line : Int} {fig : Str} {n : Int} (hp : pre.length ≤ 40) (hI : Inv05 (pre ++ [n]) line fig) : line.natAbs < 10 ^ 41 := by
  obtain ⟨i1, _, i3, _, _⟩ := hI
  have h1 : (10 : Int) ^ (pre ++ [n]).length ≤ 10 ^ 41 := by
    have : (10 : Nat) ^ (pre ++ [n]).length ≤ 10 ^ 41 := Nat.pow_le_pow_right (by decide) (by simp; omega)
    exact_mod_cast this
  have h2 := Int.lt_of_lt_of_le i3 h1
  have h3 : ((line.natAbs : Nat) : Int) < ((10 ^ 41 : Nat) : Int) := by
    rw [Int.natAbs_of_nonneg i1]; exact_mod_cast h2
  exact_mod_cast h3
theorem neg05 {pre : List Int} {line : Int} {fig : Str} {n : Int} (hI : Inv05 (pre ++ [n]) line fig) (h : 0 < line) : Str.ofString "-" ++ fig = fig2 (-line) := by
  obtain ⟨i1, i2, i3, i4, i5⟩ := hI
  have hf := i4 (by simp)
  obtain ⟨m, rfl⟩ := Int.eq_ofNat_of_zero_le i1
  have hf' : fig = ⟨((Nat.toDigits 10 m).map Char.toNat).toArray⟩ := hf.trans (text_ofNat m)
  have h1 := tDigits_len_ge 10 m
  have e : numDigits (-(m : Int)) = 45 :: (Nat.toDigits 10 m).map Char.toNat := by
    unfold numDigits
    rw [if_pos (by omega), Int.natAbs_neg, Int.natAbs_natCast]; rfl
  unfold fig2
  rw [e, hf', show 2 - (45 :: (Nat.toDigits 10 m).map Char.toNat).length = 0 by simp; omega]
  apply congrArg PySem.Str.mk
  simp
  rfl
theorem zero05 : Str.ofString " 0" = fig2 0 := by decide +kernel
end Mine
end
section
open PySem PySem.W PySem.Calls PyProof.Rows PySem.Builtin PySem.Builtin.Str
set_option Elab.async false
set_option maxRecDepth 100000
set_option maxHeartbeats 4000000
set_option linter.unusedVariables false
namespace Mine
/-- a sign that the pieces of law 08 bear -/
def sgn (c : Nat) : Bool := c == 10 || (32 ≤ c && c < 127)
def esc (q c : Nat) : List Nat := if c = q ∨ c = 92 then [92, c] else if c = 10 then [92, 110] else [c]
theorem esc_all : ∀ c : Fin 127, sgn c.val = true → reprChar 39 c.val = esc 39 c.val ∧ reprChar 34 c.val = esc 34 c.val := by decide +kernel
theorem sgn_lt {c : Nat} (h : sgn c = true) : c < 127 := by
  simp only [sgn, Bool.or_eq_true, beq_iff_eq, Bool.and_eq_true, decide_eq_true_eq] at h
  omega
theorem esc_ok {q c : Nat} (hq : q = 39 ∨ q = 34) (h : sgn c = true) : reprChar q c = esc q c := by
  have := esc_all ⟨c, sgn_lt h⟩ h
  rcases hq with rfl | rfl
  · exact this.1
  · exact this.2
theorem quote_is (x : PySem.Str) : reprQuote x = 39 ∨ reprQuote x = 34 := by
  unfold reprQuote
  split
  · exact .inr rfl
  · exact .inl rfl
theorem foldl_flat (f : Nat → List Nat) : ∀ (l : List Nat) (acc : Array Nat), l.foldl (fun out c => out ++ (f c).toArray) acc = acc ++ (l.flatMap f).toArray
  | [], acc => by simp
  | c :: r, acc => by
    rw [List.foldl_cons, foldl_flat f r]
    simp [List.flatMap_cons]
theorem flat_congr {f g : Nat → List Nat} : ∀ {l : List Nat}, (∀ c ∈ l, f c = g c) → l.flatMap f = l.flatMap g
  | [], _ => rfl
  | c :: r, h => by
    rw [List.flatMap_cons, List.flatMap_cons, h c (.head _), flat_congr fun d hd => h d (.tail _ hd)]
def Sg (x : PySem.Str) : Prop := ∀ c ∈ x.cps.toList, sgn c = true
theorem repr_cps {x : PySem.Str} (h : Sg x) : (reprText x).cps.toList = reprQuote x :: (x.cps.toList.flatMap (esc (reprQuote x)) ++ [reprQuote x]) := by
  have e : x.cps.toList.flatMap (reprChar (reprQuote x)) = x.cps.toList.flatMap (esc (reprQuote x)) := by
    exact flat_congr fun c hc => esc_ok (quote_is x) (h c hc)
  unfold reprText
  rw [← Array.foldl_toList, foldl_flat, e]
  simp
theorem esc_len (q c : Nat) : 1 ≤ (esc q c).length ∧ (esc q c).length ≤ 2 := by
  unfold esc
  repeat' split
  all_goals simp
theorem flat_len (q : Nat) : ∀ l : List Nat, (l.flatMap (esc q)).length ≤ 2 * l.length
  | [] => by simp
  | c :: r => by
    have := flat_len q r
    have := (esc_len q c).2
    rw [List.flatMap_cons, List.length_append, List.length_cons]
    omega
theorem repr_len {x : PySem.Str} (h : Sg x) : (reprText x).length ≤ 2 * x.length + 2 := by
  have e : (reprText x).length = (reprText x).cps.toList.length := by simp [PySem.Str.length]
  have := flat_len (reprQuote x) x.cps.toList
  have e2 : x.cps.toList.length = x.length := by simp [PySem.Str.length]
  rw [e, repr_cps h, List.length_cons, List.length_append, List.length_singleton]
  omega
end Mine
end
section
open PySem PySem.W PySem.Calls PyProof.Rows PySem.Builtin PySem.Builtin.Str
set_option Elab.async false
set_option maxRecDepth 100000
set_option maxHeartbeats 4000000
set_option linter.unusedVariables false
namespace Mine
def signs2 : List Nat := [97, 39, 34, 92, 10, 37, 114, 123, 125, 9, 0, 32, 115]
def esc2 (q c : Nat) : List Nat := if c = q ∨ c = 92 then [92, c] else if c = 10 then [92, 110] else if c = 9 then [92, 116] else if c = 0 then [92, 120, 48, 48] else [c]
theorem esc2_all : ∀ c ∈ signs2, reprChar 39 c = esc2 39 c ∧ reprChar 34 c = esc2 34 c := by decide +kernel
theorem esc2_ok {q c : Nat} (hq : q = 39 ∨ q = 34) (h : c ∈ signs2) : reprChar q c = esc2 q c := by
  have := esc2_all c h
  rcases hq with rfl | rfl
  · exact this.1
  · exact this.2
def Sg2 (x : PySem.Str) : Prop := ∀ c ∈ x.cps.toList, c ∈ signs2
theorem repr2_cps {x : PySem.Str} (h : Sg2 x) : (reprText x).cps.toList = reprQuote x :: (x.cps.toList.flatMap (esc2 (reprQuote x)) ++ [reprQuote x]) := by
  have e : x.cps.toList.flatMap (reprChar (reprQuote x)) = x.cps.toList.flatMap (esc2 (reprQuote x)) := flat_congr fun c hc => esc2_ok (quote_is x) (h c hc)
  unfold reprText
  rw [← Array.foldl_toList, foldl_flat, e]
  simp
theorem esc2_len (q c : Nat) : (esc2 q c).length ≤ 4 := by
  unfold esc2
  repeat' split
  all_goals simp
theorem flat2_len (q : Nat) : ∀ l : List Nat, (l.flatMap (esc2 q)).length ≤ 4 * l.length
  | [] => by simp
  | c :: r => by
    have := flat2_len q r
    have := esc2_len q c
    rw [List.flatMap_cons, List.length_append, List.length_cons]
    omega
theorem repr2_len {x : PySem.Str} (h : Sg2 x) : (reprText x).length ≤ 4 * x.length + 2 := by
  have e : (reprText x).length = (reprText x).cps.toList.length := by simp [PySem.Str.length]
  have := flat2_len (reprQuote x) x.cps.toList
  have e2 : x.cps.toList.length = x.length := by simp [PySem.Str.length]
  rw [e, repr2_cps h, List.length_cons, List.length_append, List.length_singleton]
  omega
theorem sg2_snoc {x : PySem.Str} {c : Nat} (h : Sg2 x) (hc : c ∈ signs2) : Sg2 (x ++ ⟨#[c]⟩) := by
  intro d hd
  rw [PySem.Str.cps_append, Array.toList_append] at hd
  rcases List.mem_append.mp hd with hd | hd
  · exact h d hd
  · rw [List.mem_singleton.mp hd]; exact hc
/-- the twelve signs, by their places -/
def sigText : PySem.Str := PySem.Str.ofString "a'\"\\\n%r{}\t\x00 "
theorem sig_item : ∀ d : Fin 12, Txt.item sigText (d.val : Int) = ⟨#[signs2[d.val]!]⟩ ∧ signs2[d.val]! ∈ signs2 := by decide +kernel
theorem sig_len : sigText.length = 12 := by decide +kernel
theorem sig_at {k : Int} (h0 : 0 ≤ k) (h1 : k < 12) : ∃ c ∈ signs2, Txt.item sigText k = ⟨#[c]⟩ := by
  obtain ⟨n, rfl⟩ := Int.eq_ofNat_of_zero_le h0
  exact ⟨_, (sig_item ⟨n, by omega⟩).2, (sig_item ⟨n, by omega⟩).1⟩
/-- what _law_text turns -/
def WT (sg : Value) (n : Nat) (m : PySem.Str → Option Value) (nx : List (Addr × Obj)) : Prop :=
  nx = [] ∧ (∃ k t, m (PySem.Str.ofString "number") = some (.int k t) ∧ 0 ≤ k ∧ k < 12 ^ n) ∧ m (PySem.Str.ofString "signs") = some sg ∧ ∃ x u, m (PySem.Str.ofString "out") = some (.str x u) ∧ Sg2 x ∧ x.length + n ≤ 4
/-- the figures of a number from 0 on -/
def figN (n : Nat) : PySem.Str := ⟨((Nat.toDigits 10 n).map Char.toNat).toArray⟩
def Tells10 (k n : Nat) (x : PySem.Str) : Prop := (k = 0 ∧ x = figN n) ∨ (0 < k ∧ figN k ++ x = figN n)
theorem tells_step {k n : Nat} {x : PySem.Str} (hk : 0 < k) (h : figN k ++ x = figN n) : Tells10 (k / 10) n ((⟨#[48 + k % 10]⟩ : PySem.Str) ++ x) := by
  have hd : k % 10 < 10 := Nat.mod_lt _ (by decide)
  by_cases h0 : k / 10 = 0
  · left
    refine ⟨h0, ?_⟩
    have e : k % 10 = k := by omega
    have e2 := dig_fig ⟨k, by omega⟩
    dsimp only at e2
    rw [← h, figN, e2, e]
  · right
    refine ⟨by omega, ?_⟩
    have e : k = 10 * (k / 10) + k % 10 := by omega
    rw [← h, ← PySem.Str.append_assoc]
    congr 1
    conv => rhs; rw [e]
    unfold figN
    rw [← Nat.toDigits_append_toDigits (by decide) (by omega) hd, List.map_append, dig_fig ⟨k % 10, hd⟩]
    apply congrArg PySem.Str.mk
    simp
theorem tells_first (n : Nat) : Tells10 (n / 10) n (⟨#[48 + n % 10]⟩ : PySem.Str) := by
  by_cases h0 : n = 0
  · subst h0; exact .inl ⟨rfl, by decide +kernel⟩
  · have := tells_step (k := n) (n := n) (x := PySem.Str.empty) (by omega) (by rw [show figN n ++ PySem.Str.empty = figN n from by apply PySem.Str.ext'; simp [PySem.Str.cps_append, PySem.Str.empty]])
    rwa [show (⟨#[48 + n % 10]⟩ : PySem.Str) ++ PySem.Str.empty = ⟨#[48 + n % 10]⟩ from by apply PySem.Str.ext'; simp [PySem.Str.cps_append, PySem.Str.empty]] at this
/-- what _law_figures turns -/
def WF (n₀ n : Nat) (nv : Value) (m : PySem.Str → Option Value) (nx : List (Addr × Obj)) (j : Nat) : Prop :=
  nx = [] ∧ m (PySem.Str.ofString "number") = some nv ∧ ∃ (k : Nat) (t : Tok) (x : PySem.Str) (u : Tok), m (PySem.Str.ofString "left") = some (.int (k : Int) t) ∧ m (PySem.Str.ofString "out") = some (.str x u) ∧ ((j = n₀ ∧ k = n ∧ x = PySem.Str.ofString "") ∨ (0 < j ∧ k < 10 ^ (j - 1) ∧ x ≠ PySem.Str.ofString "" ∧ x.length + j ≤ n₀ ∧ Tells10 k n x))
end Mine
end
section
open PySem PySem.W PySem.Calls PyProof.Rows
set_option Elab.async false
set_option maxRecDepth 100000
set_option maxHeartbeats 4000000
namespace Mine
section
variable {prog : Program} {w : World} {A : Around} {E : Value → Shared → Prop} {s : Shared} {env : Env} {h₀ : Heap} {target : Expr} {body : List Stmt} {Q : Flow → Shared → Prop}
/-- a loop over a list of the ledger, by what holds of the frame; the ledger is kept -/
theorem turns_inv {ax : Addr} {vs : List Value} {nn : Nat} {m₀ : Str → Option Value} {news : List (Addr × Obj)} (J : (Str → Option Value) → Prop)
    (hh : A.handled = none) (hl : (ax, listOf vs.toArray nn) ∈ news) (F : Fr h₀ env.locals s.heap m₀) (N : News h₀ env.locals s.heap news) (hj : J m₀)
    (turn : ∀ v m₁ h tk own, v ∈ vs → J m₁ → Fr h₀ env.locals h m₁ → News h₀ env.locals h (news ++ own) →
      wpAny (model prog w) A (assign target env v) (fun _ s₃ => wpAny (model prog w) A (execs body env) (InvPost h₀ env.locals J (news ++ own) { s with heap := h, toks := tk } Q) E s₃) E { s with heap := h, toks := tk })
    (done : ∀ m₁ h tk, J m₁ → Fr h₀ env.locals h m₁ → News h₀ env.locals h news → Q .next { s with heap := h, toks := tk }) :
    wpAny (model prog w) A (pyIter (.ref ax)) (fun it s₂ => TurnsAt prog w A h₀ env target body Q E it s₂) E s := by
  have hol : s.heap.get? ax = some (listOf vs.toArray nn) := (N _ hl).1
  have hls : s.heap.IsList ax vs.toArray := ⟨_, hol, rfl, nn, rfl⟩
  have hne : ax ≠ s.heap.objs.size := Nat.ne_of_lt (Heap.lt_size hol)
  refine wpAny_pyIter_list hls ?_
  have W := KTurns.ofWalks (target := target) (Walks.list (prog := prog) (w := w) hh s.heap.objs.size ax hne vs.toArray) fun i v s Q E st q => letGo_listiter st.1 q
  refine ⟨_, _, _, _, _, _, _, m₀, news, (fun _ m nx => nx = news ∧ J m), rfl, W, ?_, ?_, ?_, ⟨⟨_, Heap.get?_push_size _ rfl, rfl, rfl⟩, hls.at fun o e => Heap.get?_push_of_some _ e⟩, F.push _, (fun p hp => ⟨Heap.get?_push_of_some _ (N p hp).1, (N p hp).2⟩), ⟨rfl, hj⟩, ?_, ?_⟩
  · intro hm
    rcases List.mem_cons.mp hm with e | hm
    · exact absurd F.ns.lt (e ▸ Nat.lt_irrefl _)
    · exact (N _ hl).2.1 ((List.mem_singleton.mp hm).symm)
  · intro b hb
    rw [List.mem_singleton.mp hb]
    exact next_is_new F
  · intro p hp hI
    exact absurd (Heap.lt_size (N p hp).1) ((List.mem_singleton.mp hI) ▸ Nat.lt_irrefl _)
  · rintro i v m₁ news₁ h₁ tk₁ own hin hP ⟨rfl, hJ⟩ hoff hown hget hall _ F₁ N₁
    have hP' : vs[i]? = some v := by simpa using hP
    have N₂ : News h₀ env.locals h₁ (news₁ ++ own) := fun p hp => N₁ p ((List.mem_append.mp hp).elim (fun h => List.mem_append.mpr (.inr h)) fun h => List.mem_append.mpr (.inl h))
    refine wpAny_mono (turn v m₁ h₁ tk₁ own (List.mem_of_getElem? hP') hJ F₁ N₂) (fun _ s₃ z => wpAny_mono z (fun f s₂ p => ?_) fun _ _ e => e) fun _ _ e => e
    have fin : InvEnd h₀ env.locals J (news₁ ++ own) { s with heap := h₁, toks := tk₁ } s₂ → LoopStepU h₀ env.locals [s.heap.objs.size] own (fun m nx => nx = news₁ ∧ J m) { s with heap := h₁, toks := tk₁ } .next s₂ := by
      rintro ⟨h', tk, m', news', e, F', N', hn, hm⟩
      exact ⟨rfl, h', tk, m', news₁, e, F', fun p hp => N' p (hn p ((List.mem_append.mp hp).elim (fun h => List.mem_append.mpr (.inr h)) fun h => List.mem_append.mpr (.inl h))), hoff, rfl, hm⟩
    cases f with
    | ret v => exact .ret p
    | brk => exact .brk p
    | next => exact .next (fin p)
    | cont => exact .cont (fin p)
  · rintro h' tk m' news' F' N' _ ⟨rfl, hJ⟩
    exact done m' h' tk hJ F' N'
theorem turns_keep {ax : Addr} {vs : List Value} {nn : Nat} {m₀ : Str → Option Value} {news : List (Addr × Obj)} (junk : List Str)
    (hh : A.handled = none) (hl : (ax, listOf vs.toArray nn) ∈ news) (F : Fr h₀ env.locals s.heap m₀) (N : News h₀ env.locals s.heap news)
    (turn : ∀ v m₁ h tk led, v ∈ vs → (∀ z, z ∉ junk → m₁ z = m₀ z) → (∀ p ∈ news, p ∈ led) → Fr h₀ env.locals h m₁ → News h₀ env.locals h led →
      wpAny (model prog w) A (assign target env v) (fun _ s₃ => wpAny (model prog w) A (execs body env) (InvPost h₀ env.locals (fun m' => ∀ z, z ∉ junk → m' z = m₀ z) led { s with heap := h, toks := tk } Q) E s₃) E { s with heap := h, toks := tk })
    (done : ∀ m₁ h tk, (∀ z, z ∉ junk → m₁ z = m₀ z) → Fr h₀ env.locals h m₁ → News h₀ env.locals h news → Q .next { s with heap := h, toks := tk }) :
    wpAny (model prog w) A (pyIter (.ref ax)) (fun it s₂ => TurnsAt prog w A h₀ env target body Q E it s₂) E s :=
  turns_inv (fun m' => ∀ z, z ∉ junk → m' z = m₀ z) hh hl F N (fun _ _ => rfl) (fun v m₁ h tk own hv hj F₁ N₁ => turn v m₁ h tk (news ++ own) hv hj (fun _ hp => List.mem_append_left _ hp) F₁ N₁) done
theorem fr_names {L : Addr} {h : Heap} {m₁ : Str → Option Value} (ps : List (Str × Value)) (hp : ∀ p ∈ ps, m₁ p.1 = some p.2) (F : Fr h₀ L h m₁) : Fr h₀ L h (kstB m₁ ps) := by
  have e : kstB m₁ ps = m₁ := funext fun z => kstB_eq hp fun _ => rfl
  rw [e]; exact F
theorem inv_end {L : Addr} {J : (Str → Option Value) → Prop} {m' : Str → Option Value} {need news' : List (Addr × Obj)} {h' : Heap} {tk : Nat} (F : Fr h₀ L h' m') (N : News h₀ L h' news') (hn : ∀ p ∈ need, p ∈ news') (hj : J m') : InvPost h₀ L J need s Q .next { s with heap := h', toks := tk } :=
  InvEnd.intro F N hn hj
end
end Mine
end
section
open PySem PySem.W PySem.Calls PyProof.Rows
set_option Elab.async false
set_option maxRecDepth 100000
set_option maxHeartbeats 4000000
namespace Mine
theorem kitAt_tup {h h' : Heap} {a : Addr} {its : Array Value} (x : IsTup h a its) (g : Grow h h') : KitAt a "tuple" h' := by
  obtain ⟨o, ho, hc, _⟩ := x
  exact ⟨o, g _ _ ho, hc⟩
theorem kitAt_list {h h' : Heap} {a : Addr} {its : Array Value} (x : h.IsList a its) (g : Grow h h') : KitAt a "list" h' := by
  obtain ⟨o, ho, hc, _⟩ := x
  exact ⟨o, g _ _ ho, hc⟩
end Mine
end
section
open PySem PySem.W PySem.Spec PySem.Calls PyProof.Rows PyProof.Rows.LCg
set_option Elab.async false
set_option maxRecDepth 100000
set_option maxHeartbeats 4000000
namespace Mine
/-- the source of a comprehension is a tuple that stood ahead of the frame -/
def SrcT (prog : Program) (w : World) (A : Around) (h₀ : Heap) (L : Addr) (m : Str → Option Value) (env : Env) (elt : Expr) (x : Str) (scope : Scope) (cl : List (Str × Addr)) (Fin : Shared → List Value → List (Addr × Obj) → Prop) (xv : Value) (s₁ : Shared) : Prop :=
  ∃ ax its news, xv = .ref ax ∧ A.handled = none ∧ Fr h₀ L s₁.heap m ∧ News h₀ L s₁.heap news ∧ h₀.IsTuple ax its ∧ its.size ≤ sizeLine ∧
    ∀ g, CompRest prog w A h₀ L m env elt x scope cl { s₁ with heap := g } (fun _ => True) (fun i v => its[i]? = some v) (Fin { s₁ with heap := g }) its.size 0 [] news
section
variable {prog : Program} {w : World} {A : Around} {E : Value → Shared → Prop} {s : Shared} {h₀ : Heap} {L : Addr} {m : Str → Option Value} {env : Env}
theorem srcT_base {elt : Expr} {x : Str} {scope : Scope} {cl : List (Str × Addr)} {Fin : Shared → List Value → List (Addr × Obj) → Prop} {ax : Addr} {its : Array Value} {news : List (Addr × Obj)} {s₁ : Shared}
    (hh : A.handled = none) (F : Fr h₀ L s₁.heap m) (N : News h₀ L s₁.heap news) (ht : IsTup h₀ ax its) (hsz : its.size ≤ sizeLine)
    (h : ∀ g, CompRest prog w A h₀ L m env elt x scope cl { s₁ with heap := g } (fun _ => True) (fun i v => its[i]? = some v) (Fin { s₁ with heap := g }) its.size 0 [] news) :
    SrcT prog w A h₀ L m env elt x scope cl Fin (.ref ax) s₁ := ⟨ax, its, news, rfl, hh, F, N, ht, hsz, h⟩
theorem ListComp_tup {elt iter : Expr} {x : Str} {px : Pos} {scope : Scope} {cl : List (Str × Addr)} {pos : Pos} {Q : Value → Shared → Prop} (F₀ : Fr h₀ L s.heap m)
    (hclos : closureFor scope env = pure cl) (hcell : ∀ y ∈ scope.names, y.2 ≠ .cell) (hkind : scope.kind = .function)
    (hnames : ∀ y ∈ scope.names, y.2 = .local → scope.names.lookup y.1 = some .local) (hx : scope.names.lookup x = some .local)
    (h : wpAny (model prog w) A (eval iter env) (SrcT prog w A h₀ L m env elt x scope cl (fun s₂ => FinE h₀ L m s₂ Q)) E s)
    (hs : ∀ x, foldedSetIterable iter env x = pure x := by intro _; rfl) :
    wpAny (model prog w) A (eval (.ListComp elt [⟨.Name x px, iter, [], 0⟩] scope pos) env) Q E s := by
  rw [eval_ListComp]
  refine wpAny_comprehension_free (use := none) rfl hs hclos hkind hnames (wpAny_mono h (fun xv s₁ h₁ => ?_) fun _ _ e => e)
  obtain ⟨ax, its, news, rfl, hh, F, N, ht, hsz, R⟩ := h₁
  have hl : s₁.heap.IsTuple ax its := by
    obtain ⟨o, e, r⟩ := ht
    exact ⟨o, F.keep _ _ e, r⟩
  have hlt : ax < s₁.heap.objs.size := by obtain ⟨_, e, _⟩ := hl; exact Heap.lt_size e
  have up : ∀ b o, s₁.heap.get? b = some o → (s₁.heap.push { cls := .type "tuple_iterator", data := .fields #[.ref ax, .int 0 0] }).get? b = some o := fun b o e => Heap.get?_push_of_some _ e
  refine wpAny_pyIter_tuple hl ?_
  refine block_U (S := fun _ => True) (Walks.tuple hh s₁.heap.objs.size ax (Nat.ne_of_lt hlt) its) hsz (fun i h st => by obtain ⟨o, e, _⟩ := st.1; exact ⟨o, e⟩) ?_ hcell hkind hx ⟨⟨_, Heap.get?_push_size _ rfl, rfl, rfl⟩, hl.push _⟩ (fun b hb => ?_)
    (F.keeps up) (N.grown up) (Nat.ne_of_lt F.ns.lt) (next_is_new F) (fun p hp => Nat.ne_of_lt (Heap.lt_size (N p hp).1)) trivial (R _) ?_
  · intro i h h' o nw st e e' k _ _
    refine ⟨?_, ?_⟩
    · obtain ⟨o', q, r⟩ := st.1
      rw [e] at q; cases q
      exact ⟨o, e', r⟩
    · obtain ⟨o', q, r⟩ := ht
      exact ⟨o', k _ _ q, r⟩
  · show b < (s₁.heap.push _).objs.size
    rw [Heap.size_push]
    rcases List.mem_cons.mp hb with rfl | hb
    · exact Nat.lt_succ_self _
    · rw [List.mem_singleton.mp hb]; exact Nat.lt_succ_of_lt hlt
  · intro D C h tk m' ys news' F' N' o1 hn hC₀ hD₀ hCL hDL hCD offC fin
    refine ⟨m', hn, fun h'' hs'' => fin D h'' tk (F'.change hs'' hCL hC₀) (fun p hp => ?_) o1⟩
    refine ⟨hs''.extBut _ _ ?_ (N' p hp).1, (N' p hp).2⟩
    rcases List.mem_cons.mp hp with rfl | hp
    · exact Ne.symm hCD
    · exact offC p hp
end
end Mine
namespace Mine
theorem jl1 (a b : Str) : (Txt.join a [b]).length = b.length := by
  unfold Txt.join
  rw [StrLaws.glued_eq_join]
  rfl
theorem jl2 (a b c : Str) : (Txt.join a [b, c]).length = b.length + a.length + c.length := by
  unfold Txt.join
  rw [StrLaws.glued_eq_join]
  show (b ++ a ++ Str.join a [c]).length = _
  rw [PySem.Str.length_append, PySem.Str.length_append]
  rfl
end Mine
end
section
open PySem PySem.W PySem.Calls PyProof.Rows PySem.Builtin PySem.Builtin.Str
set_option Elab.async false
set_option maxRecDepth 100000
set_option maxHeartbeats 4000000
set_option linter.unusedVariables false
namespace Mine
/-- the sign of x at i is y -/
def ItemAt (x : PySem.Str) (i : Int) (y : PySem.Str) : Prop := 0 ≤ i ∧ i < (x.length : Int) ∧ x.length ≤ 100000 ∧ Txt.item x i = y
/-- the signs of x from i to j are y -/
def SliceAt (x : PySem.Str) (i j : Int) (y : PySem.Str) : Prop := x.length ≤ 100000 ∧ Txt.slice x (some i) (some j) = y
section
variable {prog : Program} {w : World} {A : Around} {E : Value → Shared → Prop} {s : Shared} {h₀ : Heap} {L : Addr} {m : PySem.Str → Option Value} {news : List (Addr × Obj)} {Q : Value → Shared → Prop} {value slice : Expr} {x y : PySem.Str} {t u ui uj : Tok} {i j : Int}
theorem item_is (hy : ItemAt x i y) (h : Q (.str y s.toks) { s with toks := s.toks + 1 })
    (hs : subscripted slice false (.str x t) (.int i u) = operate [.str x t, .int i u] (getItem (.str x t) (.int i u)) := by with_unfolding_all rfl)
    (ht : ∀ r, letTemporaryGo value (.str x t) r = pure () := by intro _; with_unfolding_all rfl) :
    wpAny (model prog w) A (subscriptTail value slice (.str x t) (.int i u)) Q E s := by
  obtain ⟨h0, h1, h2, rfl⟩ := hy
  exact item_str (fitsSsize_of (N := 9223372036854775808) (by omega) (by omega) (Int.le_refl _)) (by omega) h1 (fun _ => h) hs ht
theorem slice_is (hy : SliceAt x i j y) (hF : Fr h₀ L s.heap m) (hN : News h₀ L s.heap news) (h : ∀ h' t' k, Fr h₀ L h' m → News h₀ L h' news → Q (.str y t') { s with heap := h', toks := k })
    (hs : subscripted slice false (.str x t) (.ref s.heap.objs.size) = operate [.ref s.heap.objs.size, .str x t] (getItem (.str x t) (.ref s.heap.objs.size)) := by with_unfolding_all rfl)
    (ht : ∀ r, letTemporaryGo value (.str x t) r = pure () := by intro _; with_unfolding_all rfl) :
    wpAny (model prog w) A (subscriptTail value slice (.str x t) (.ref s.heap.objs.size)) Q E { s with heap := s.heap.push { cls := .type "slice", data := .fields #[.int i ui, .int j uj, .none] } } := by
  obtain ⟨h2, rfl⟩ := hy
  exact slice_strN_ss hF hN h hs ht (by rw [sizeLine_eq]; omega)
end
theorem slice_mid {x : PySem.Str} {a b c : List Nat} {i j : Int} (h : x.cps.toList = a ++ (b ++ c)) (hi : i = a.length) (hj : j = a.length + b.length) (hl : x.length ≤ 100000) : SliceAt x i j ⟨b.toArray⟩ := by
  refine ⟨hl, ?_⟩
  have hlen : (x.cps.toList.length : Int) = a.length + (b.length + c.length) := by rw [h]; simp
  have := eq_of_beq (slice_closes (x := x) (i := i) (j := j) ⟨by omega, by omega, by omega⟩)
  rw [this, h]
  have e1 : i.toNat = a.length := by omega
  have e2 : (j - i).toNat = b.length := by omega
  rw [e1, e2, List.drop_left, List.take_left]
theorem item_mid {x : PySem.Str} {a c : List Nat} {b : Nat} {i : Int} (h : x.cps.toList = a ++ b :: c) (hi : i = a.length) (hl : x.length ≤ 100000) : ItemAt x i ⟨#[b]⟩ := by
  have hlen : x.length = a.length + (c.length + 1) := by
    have : x.cps.toList.length = x.length := by simp [PySem.Str.length]
    rw [← this, h]; simp
  refine ⟨by omega, by omega, hl, ?_⟩
  unfold Txt.item Txt.charAt
  have e0 : seqIndex? i x.length = some a.length := by
    unfold seqIndex?
    subst hi
    simp
    omega
  rw [e0]
  have e1 : x.cps[a.length]? = some b := by
    have : x.cps.toList[a.length]? = some b := by rw [h]; simp
    simpa using this
  simp [e1]
end Mine
end
section
open PySem PySem.W PySem.Calls PyProof.Rows
set_option Elab.async false
set_option maxRecDepth 100000
set_option maxHeartbeats 4000000
set_option linter.unusedVariables false
namespace Mine
theorem quoteA {x : Str} (h : (Builtin.Str.occurrences x (Str.ofString "'") 0 x.length 1).isEmpty = true) : reprQuote x = 39 := by
  have e := empty_one x 39
  have e2 : Str.ofString "'" = ⟨#[39]⟩ := rfl
  rw [e2, e] at h
  unfold reprQuote
  have : x.cps.contains 39 = false := by simpa using h
  rw [this]; rfl
theorem quoteB {x : Str} (h : (Builtin.Str.occurrences x (Str.ofString "\"") 0 x.length 1).isEmpty = false) : reprQuote x = 39 := by
  have e := empty_one x 34
  have e2 : Str.ofString "\"" = ⟨#[34]⟩ := rfl
  rw [e2, e] at h
  unfold reprQuote
  have : x.cps.contains 34 = true := by simpa using h
  rw [this]; simp
theorem quoteC {x : Str} (h1 : (Builtin.Str.occurrences x (Str.ofString "'") 0 x.length 1).isEmpty = false) (h : (Builtin.Str.occurrences x (Str.ofString "\"") 0 x.length 1).isEmpty = true) : reprQuote x = 34 := by
  have e := empty_one x 34
  have e2 : Str.ofString "\"" = ⟨#[34]⟩ := rfl
  have f := empty_one x 39
  have f2 : Str.ofString "'" = ⟨#[39]⟩ := rfl
  rw [e2, e] at h
  rw [f2, f] at h1
  unfold reprQuote
  have h3 : x.cps.contains 34 = false := by simpa using h
  have h4 : x.cps.contains 39 = true := by simpa using h1
  rw [h3, h4]; rfl
theorem sone {n q : Nat} {y : Str} (hy : y = ⟨#[q]⟩) : (((⟨#[n]⟩ : Str) == y) = true) = (n = q) := by
  subst hy
  rw [beq_iff_eq]
  simp
theorem sone' {n q : Nat} {y : Str} (hy : y = ⟨#[q]⟩) : (((⟨#[n]⟩ : Str) == y) = false) = (¬ n = q) := by
  rw [← sone hy, Bool.not_eq_true]
theorem out_len {o x : Str} {q : Nat} {l : List Nat} (h : o.cps.toList = q :: l.flatMap (esc2 q)) (hl : l.length ≤ 4) : o.length ≤ 17 := by
  have e : o.length = o.cps.toList.length := by simp [PySem.Str.length]
  have := flat2_len q l
  rw [e, h, List.length_cons]; omega
section
variable {prog : Program} {w : World} {A : Around} {E : Value → Shared → Prop} {s : Shared} {env : Env} {h₀ : Heap} {x : Str} {body : List Stmt} {Q : Flow → Shared → Prop}
theorem loopQ {xt : Str} {tx u0 : Tok} {m₀ : Str → Option Value} (q : Nat) (hl : xt.length ≤ 4) (hxo : Str.ofString "out" ≠ x)
    (hh : A.handled = none) (F : Fr h₀ env.locals s.heap m₀) (N : News h₀ env.locals s.heap []) (ho : m₀ (Str.ofString "out") = some (.str ⟨#[q]⟩ u0))
    (turn : ∀ (pre post : List Nat) (n : Nat) (t : Tok) (o : Str) (ou : Tok) (h : Heap) (tk : Nat) (own : List (Addr × Obj)), xt.cps.toList = pre ++ n :: post → o.cps.toList = q :: pre.flatMap (esc2 q) → o.length ≤ 17 →
      Fr h₀ env.locals h (fun y => if y = x then some (.str ⟨#[n]⟩ t) else if y = Str.ofString "out" then some (.str o ou) else m₀ y) → News h₀ env.locals h own →
      ∀ (Q' : Flow → Shared → Prop), (∀ (h' : Heap) (tk' : Nat) (m' : Str → Option Value) (o' : Str) (ou' : Tok) (news' : List (Addr × Obj)), Fr h₀ env.locals h' m' → News h₀ env.locals h' news' → (∀ p ∈ own, p ∈ news') → m' (Str.ofString "out") = some (.str o' ou') → o'.cps.toList = o.cps.toList ++ esc2 q n → (∀ z, z ≠ x → z ≠ Str.ofString "out" → m' z = m₀ z) → Q' .next { s with heap := h', toks := tk' }) →
      wpAny (model prog w) A (execs body env) Q' E { s with heap := h, toks := tk })
    (done : ∀ (o : Str) (ou : Tok) (u : Str → Option Value) (h : Heap) (tk : Nat), o.cps.toList = q :: xt.cps.toList.flatMap (esc2 q) → o.length ≤ 17 → Fr h₀ env.locals h (fun y => if y = x then u y else if y = Str.ofString "out" then some (.str o ou) else m₀ y) → Q .next { s with heap := h, toks := tk }) :
    wpAny (model prog w) A (pyIter (.str xt tx)) (fun it s₂ => LoopAtV prog w A h₀ env x body Q E it s₂) E s := by
  have cod : KStt.codes xt = xt.cps.toList.map fun (c : Nat) => (c : Int) := rfl
  have back : ∀ l : List Nat, (l.map fun (c : Nat) => (c : Int)).map Int.toNat = l := fun l => by
    rw [List.map_map]
    exact (List.map_congr_left (g := _root_.id) fun c _ => Int.toNat_natCast c).trans (List.map_id _)
  have hxl : xt.cps.toList.length ≤ 4 := by simpa [PySem.Str.length] using hl
  refine KStt.kst_text (σ := Str × Tok) (fun _ => []) (fun c => [(Str.ofString "out", .str c.1 c.2)]) (fun _ => True) [] (fun pre c => c.1.cps.toList = q :: (pre.map Int.toNat).flatMap (esc2 q)) (⟨#[q]⟩, u0) hh F N trivial (List.forall_mem_cons.mpr ⟨ho, List.forall_mem_nil _⟩) rfl ?_ ?_
  · rintro ⟨o, ou⟩ pre post n t u h tk own e hoff _ hp F1 N1
    dsimp only at hp F1 N1
    have e2 : xt.cps.toList = pre.map Int.toNat ++ n :: post.map Int.toNat := by
      have := congrArg (List.map Int.toNat) e
      rw [cod, back] at this
      rw [this]; simp
    have hpl : (pre.map Int.toNat).length ≤ 4 := by
      have := congrArg List.length e2
      rw [List.length_append] at this; omega
    refine turn _ _ n t o ou h tk own e2 hp (out_len (x := xt) hp hpl) (by simpa [kstB] using F1) N1 _ ?_
    intro h' tk' m' o' ou' news' F2 N2 hsub hm ho' hz
    refine ⟨h', tk', m', news', [], rfl, F2, N2, (fun p hp => nomatch hp), hsub, rfl, (o', ou'), rfl, trivial, List.forall_mem_cons.mpr ⟨hm, List.forall_mem_nil _⟩, fun z h1 h2 _ => hz z h1 (h2 _ (.head _)), ?_⟩
    show o'.cps.toList = q :: ((pre ++ [(n : Int)]).map Int.toNat).flatMap (esc2 q)
    rw [ho', hp]
    simp
  · rintro ⟨o, ou⟩ u h tk _ hp F1 N1
    dsimp only at hp F1
    rw [cod, back] at hp
    exact done o ou u h tk hp (out_len (x := xt) hp hxl) (by simpa [kstB] using F1)
end
theorem quot_end {o x : Str} {q : Nat} (hs : Sg2 x) (hq : reprQuote x = q) (h : o.cps.toList = q :: x.cps.toList.flatMap (esc2 q)) : o ++ ⟨#[q]⟩ = reprText x := by
  subst hq
  apply PySem.Str.ext'
  apply Array.toList_inj.mp
  rw [repr2_cps hs, PySem.Str.cps_append, Array.toList_append, h]
  rfl
theorem int_nat (k : Int) : (if k < 0 then -k else k) = ((k.natAbs : Nat) : Int) := by
  split <;> omega
theorem fig_neg {k : Int} (h : k < 0) : Str.ofString "-" ++ figN k.natAbs = Str.ofString (toString k) := by
  obtain ⟨m, rfl⟩ := Int.eq_negSucc_of_lt_zero h
  have e : toString (Int.negSucc m) = "-" ++ toString (Int.ofNat (m + 1)) := rfl
  rw [e]
  have := text_ofNat (m + 1)
  rw [show (Int.negSucc m).natAbs = m + 1 from rfl]
  rw [show figN (m + 1) = Str.ofString (toString (Int.ofNat (m + 1))) from this.symm]
  apply PySem.Str.ext'
  apply Array.toList_inj.mp
  simp [PySem.Str.cps_append, Str.ofString_eq_toList, String.toList_append]
theorem fig_pos {k : Int} (h : ¬ k < 0) : figN k.natAbs = Str.ofString (toString k) := by
  obtain ⟨m, rfl⟩ := Int.eq_ofNat_of_zero_le (by omega : 0 ≤ k)
  exact (text_ofNat m).symm
end Mine
namespace Mine
theorem fm10 (k : Nat) : ((k : Int).fmod 10) = ((k % 10 : Nat) : Int) := by
  rw [Int.fmod_eq_emod_of_nonneg _ (by decide)]; omega
theorem fd10 (k : Nat) : ((k : Int).fdiv 10) = ((k / 10 : Nat) : Int) := by
  rw [Int.fdiv_eq_ediv_of_nonneg _ (by decide)]; omega
theorem fig_at (k : Nat) : ItemAt (Str.ofString "0123456789") ((k : Int).fmod 10) ⟨#[48 + k % 10]⟩ := by
  have h : (Str.ofString "0123456789").length = 10 := by decide +kernel
  rw [fm10]
  exact ⟨by omega, by rw [h]; omega, by rw [h]; decide, item_fig ⟨k % 10, by omega⟩⟩
def WFs (n j k : Nat) (x : Str) : Prop := 0 < j ∧ k < 10 ^ (j - 1) ∧ x ≠ Str.ofString "" ∧ x.length + j ≤ 8 ∧ Tells10 k n x
theorem wf_step {n j k : Nat} {x : Str} (hn : n < 10 ^ 6) (hw : (j = 8 ∧ k = n ∧ x = Str.ofString "") ∨ WFs n j k x) (hc : 0 < k ∨ x = Str.ofString "") : ∃ i, j = i + 1 ∧ WFs n i (k / 10) ((⟨#[48 + k % 10]⟩ : Str) ++ x) := by
  have hl : ((⟨#[48 + k % 10]⟩ : Str) ++ x).length = 1 + x.length := by rw [PySem.Str.length_append]; rfl
  have hne : (⟨#[48 + k % 10]⟩ : Str) ++ x ≠ Str.ofString "" := fun e => by
    rw [e] at hl
    have : (Str.ofString "").length = 0 := rfl
    omega
  rcases hw with ⟨rfl, rfl, rfl⟩ | ⟨h0, h1, h2, h3, h4⟩
  · refine ⟨7, rfl, by decide, ?_, hne, by rw [hl]; decide, ?_⟩
    · show k / 10 < 10 ^ 6
      omega
    · have e : (⟨#[48 + k % 10]⟩ : Str) ++ Str.ofString "" = ⟨#[48 + k % 10]⟩ := by rw [show Str.ofString "" = (⟨#[]⟩ : Str) from rfl]; apply PySem.Str.ext'; simp [PySem.Str.cps_append]
      rw [e]; exact tells_first k
  · have hk : 0 < k := hc.resolve_right h2
    obtain ⟨i, rfl⟩ : ∃ i, j = i + 2 := ⟨j - 2, by
      rcases j with _ | _ | j
      · omega
      · exfalso; rw [show 0 + 1 - 1 = 0 from rfl, Nat.pow_zero] at h1; omega
      · omega⟩
    refine ⟨i + 1, rfl, by omega, ?_, hne, by rw [hl]; omega, ?_⟩
    · rw [show i + 2 - 1 = i + 1 from rfl, Nat.pow_succ] at h1
      rw [show i + 1 - 1 = i from rfl]; omega
    · rcases h4 with ⟨h4, _⟩ | ⟨_, h4⟩
      · omega
      · exact tells_step hk h4
theorem wf_done {n j k : Nat} {x : Str} (hw : (j = 8 ∧ k = n ∧ x = Str.ofString "") ∨ WFs n j k x) (h0 : ¬ 0 < (k : Int)) (hx : (x == Str.ofString "") = false) : x = figN n := by
  rcases hw with ⟨_, _, rfl⟩ | ⟨_, _, _, _, h4⟩
  · simp at hx
  · rcases h4 with ⟨_, h4⟩ | ⟨h4, _⟩
    · exact h4
    · omega
end Mine
end
section
open PySem PySem.W PySem.Calls PyProof.Rows
set_option Elab.async false
set_option maxRecDepth 100000
set_option maxHeartbeats 4000000
namespace Mine
section
variable {o y : Str} {n q : Nat}
theorem cat_l {e : List Nat} {z : Str} (h : z.cps.toList = e) : (o ++ z).cps.toList = o.cps.toList ++ e := by
  rw [PySem.Str.cps_append, Array.toList_append, h]
theorem bs_n : (Str.ofString "\\" ++ (⟨#[n]⟩ : Str)).cps.toList = [92, n] := by
  rw [PySem.Str.cps_append, Array.toList_append]; rfl
theorem w_q (hy : y = ⟨#[q]⟩) (h : ((⟨#[n]⟩ : Str) == y) = true) : (o ++ (Str.ofString "\\" ++ (⟨#[n]⟩ : Str))).cps.toList = o.cps.toList ++ esc2 q n := by
  rw [sone hy] at h
  exact cat_l (by rw [bs_n]; unfold esc2; rw [if_pos (.inl h)])
theorem w_b (h : ((⟨#[n]⟩ : Str) == Str.ofString "\\") = true) : (o ++ (Str.ofString "\\" ++ (⟨#[n]⟩ : Str))).cps.toList = o.cps.toList ++ esc2 q n := by
  rw [sone (y := Str.ofString "\\") (q := 92) rfl] at h
  exact cat_l (by rw [bs_n]; unfold esc2; rw [if_pos (.inr h)])
theorem w_n (hy : y = ⟨#[q]⟩) (h0 : ((⟨#[n]⟩ : Str) == y) = false) (h1 : ((⟨#[n]⟩ : Str) == Str.ofString "\\") = false) (h2 : ((⟨#[n]⟩ : Str) == Str.ofString "\n") = true) : (o ++ Str.ofString "\\n").cps.toList = o.cps.toList ++ esc2 q n := by
  rw [sone' hy] at h0; rw [sone' (y := Str.ofString "\\") (q := 92) rfl] at h1; rw [sone (y := Str.ofString "\n") (q := 10) rfl] at h2
  exact cat_l (by unfold esc2; rw [if_neg (not_or.mpr ⟨h0, h1⟩), if_pos h2]; rfl)
theorem w_t (hy : y = ⟨#[q]⟩) (h0 : ((⟨#[n]⟩ : Str) == y) = false) (h1 : ((⟨#[n]⟩ : Str) == Str.ofString "\\") = false) (h2 : ((⟨#[n]⟩ : Str) == Str.ofString "\n") = false) (h3 : ((⟨#[n]⟩ : Str) == Str.ofString "\t") = true) : (o ++ Str.ofString "\\t").cps.toList = o.cps.toList ++ esc2 q n := by
  rw [sone' hy] at h0; rw [sone' (y := Str.ofString "\\") (q := 92) rfl] at h1; rw [sone' (y := Str.ofString "\n") (q := 10) rfl] at h2; rw [sone (y := Str.ofString "\t") (q := 9) rfl] at h3
  exact cat_l (by unfold esc2; rw [if_neg (not_or.mpr ⟨h0, h1⟩), if_neg h2, if_pos h3]; rfl)
theorem w_0 (hy : y = ⟨#[q]⟩) (h0 : ((⟨#[n]⟩ : Str) == y) = false) (h1 : ((⟨#[n]⟩ : Str) == Str.ofString "\\") = false) (h2 : ((⟨#[n]⟩ : Str) == Str.ofString "\n") = false) (h3 : ((⟨#[n]⟩ : Str) == Str.ofString "\t") = false) (h4 : ((⟨#[n]⟩ : Str) == Str.ofString "\x00") = true) : (o ++ Str.ofString "\\x00").cps.toList = o.cps.toList ++ esc2 q n := by
  rw [sone' hy] at h0; rw [sone' (y := Str.ofString "\\") (q := 92) rfl] at h1; rw [sone' (y := Str.ofString "\n") (q := 10) rfl] at h2; rw [sone' (y := Str.ofString "\t") (q := 9) rfl] at h3; rw [sone (y := Str.ofString "\x00") (q := 0) rfl] at h4
  exact cat_l (by unfold esc2; rw [if_neg (not_or.mpr ⟨h0, h1⟩), if_neg h2, if_neg h3, if_pos h4]; rfl)
theorem w_e (hy : y = ⟨#[q]⟩) (h0 : ((⟨#[n]⟩ : Str) == y) = false) (h1 : ((⟨#[n]⟩ : Str) == Str.ofString "\\") = false) (h2 : ((⟨#[n]⟩ : Str) == Str.ofString "\n") = false) (h3 : ((⟨#[n]⟩ : Str) == Str.ofString "\t") = false) (h4 : ((⟨#[n]⟩ : Str) == Str.ofString "\x00") = false) : (o ++ (⟨#[n]⟩ : Str)).cps.toList = o.cps.toList ++ esc2 q n := by
  rw [sone' hy] at h0; rw [sone' (y := Str.ofString "\\") (q := 92) rfl] at h1; rw [sone' (y := Str.ofString "\n") (q := 10) rfl] at h2; rw [sone' (y := Str.ofString "\t") (q := 9) rfl] at h3; rw [sone' (y := Str.ofString "\x00") (q := 0) rfl] at h4
  exact cat_l (by unfold esc2; rw [if_neg (not_or.mpr ⟨h0, h1⟩), if_neg h2, if_neg h3, if_neg h4])
end
end Mine
end
section
open PySem PySem.W PySem.Spec PySem.Calls PyProof.Rows PyProof.Rows.LCg
set_option Elab.async false
set_option maxRecDepth 100000
set_option maxHeartbeats 4000000
namespace Mine
/-- the source of a comprehension is a dict, keyed by whole numbers, that stood ahead of the frame -/
def SrcD (prog : Program) (w : World) (A : Around) (h₀ : Heap) (L : Addr) (m : Str → Option Value) (env : Env) (elt : Expr) (x : Str) (scope : Scope) (cl : List (Str × Addr)) (Fin : Shared → List Value → List (Addr × Obj) → Prop) (xv : Value) (s₁ : Shared) : Prop :=
  ∃ ax ep, ∃ (kvs : List (Int × Value)), ∃ news, xv = .ref ax ∧ A.handled = none ∧ Fr h₀ L s₁.heap m ∧ News h₀ L s₁.heap news ∧ h₀.DictAt (intKind prog w) ax kvs ep ∧ ax ≠ sysModules ∧ kvs.length ≤ sizeLine ∧
    ∀ g, CompRest prog w A h₀ L m env elt x scope cl { s₁ with heap := g } (fun _ => True) (fun i v => ∃ k y, kvs[i]? = some (k, y) ∧ (intKind prog w).is k v = true) (Fin { s₁ with heap := g }) kvs.length 0 [] news
section
variable {prog : Program} {w : World} {A : Around} {E : Value → Shared → Prop} {s : Shared} {h₀ : Heap} {L : Addr} {m : Str → Option Value} {env : Env}
theorem srcD_base {elt : Expr} {x : Str} {scope : Scope} {cl : List (Str × Addr)} {Fin : Shared → List Value → List (Addr × Obj) → Prop} {ax : Addr} {ep : Nat} {kvs : List (Int × Value)} {news : List (Addr × Obj)} {s₁ : Shared}
    (hh : A.handled = none) (F : Fr h₀ L s₁.heap m) (N : News h₀ L s₁.heap news) (hd : h₀.DictAt (intKind prog w) ax kvs ep) (ha : ax ≠ sysModules) (hsz : kvs.length ≤ sizeLine)
    (h : ∀ g, CompRest prog w A h₀ L m env elt x scope cl { s₁ with heap := g } (fun _ => True) (fun i v => ∃ k y, kvs[i]? = some (k, y) ∧ (intKind prog w).is k v = true) (Fin { s₁ with heap := g }) kvs.length 0 [] news) :
    SrcD prog w A h₀ L m env elt x scope cl Fin (.ref ax) s₁ := ⟨ax, ep, kvs, news, rfl, hh, F, N, hd, ha, hsz, h⟩
theorem ListComp_dict {elt iter : Expr} {x : Str} {px : Pos} {scope : Scope} {cl : List (Str × Addr)} {pos : Pos} {Q : Value → Shared → Prop} (F₀ : Fr h₀ L s.heap m)
    (hclos : closureFor scope env = pure cl) (hcell : ∀ y ∈ scope.names, y.2 ≠ .cell) (hkind : scope.kind = .function)
    (hnames : ∀ y ∈ scope.names, y.2 = .local → scope.names.lookup y.1 = some .local) (hx : scope.names.lookup x = some .local)
    (h : wpAny (model prog w) A (eval iter env) (SrcD prog w A h₀ L m env elt x scope cl (fun s₂ => FinE h₀ L m s₂ Q)) E s)
    (hs : ∀ x, foldedSetIterable iter env x = pure x := by intro _; rfl) :
    wpAny (model prog w) A (eval (.ListComp elt [⟨.Name x px, iter, [], 0⟩] scope pos) env) Q E s := by
  rw [eval_ListComp]
  refine wpAny_comprehension_free (use := none) rfl hs hclos hkind hnames (wpAny_mono h (fun xv s₁ h₁ => ?_) fun _ _ e => e)
  obtain ⟨ax, ep, kvs, news, rfl, hh, F, N, hd, ha, hsz, R⟩ := h₁
  have hl : s₁.heap.DictAt (intKind prog w) ax kvs ep := hd.keep F.keep
  have hlt : ax < s₁.heap.objs.size := hl.lt_size
  have up : ∀ b o, s₁.heap.get? b = some o → (s₁.heap.push { cls := .type "dict_keyiterator", data := .fields #[.ref ax, .int 0 0, .int kvs.length 0, .int ep 0] }).get? b = some o := fun b o e => Heap.get?_push_of_some _ e
  refine wpAny_pyIter_dict (beq_eq_false_iff_ne.mpr ha) hl ?_
  refine block_U (S := fun _ => True) (Walks.dictKeys (knd := intKind prog w) hh s₁.heap.objs.size ax (Nat.ne_of_lt hlt) kvs ep) hsz (fun i h st => by obtain ⟨o, e, _⟩ := st.1; exact ⟨o, e⟩) ?_ hcell hkind hx ⟨⟨_, Heap.get?_push_size _ rfl, rfl, rfl⟩, hl.push _⟩ (fun b hb => ?_)
    (F.keeps up) (N.grown up) (Nat.ne_of_lt F.ns.lt) (next_is_new F) (fun p hp => Nat.ne_of_lt (Heap.lt_size (N p hp).1)) trivial (R _) ?_
  · intro i h h' o nw st e e' k _ _
    refine ⟨?_, hd.keep k⟩
    obtain ⟨o', q, r⟩ := st.1
    rw [e] at q; cases q
    exact ⟨o, e', r⟩
  · show b < (s₁.heap.push _).objs.size
    rw [Heap.size_push]
    rcases List.mem_cons.mp hb with rfl | hb
    · exact Nat.lt_succ_self _
    · rw [List.mem_singleton.mp hb]; exact Nat.lt_succ_of_lt hlt
  · intro D C h tk m' ys news' F' N' o1 hn hC₀ hD₀ hCL hDL hCD offC fin
    refine ⟨m', hn, fun h'' hs'' => fin D h'' tk (F'.change hs'' hCL hC₀) (fun p hp => ?_) o1⟩
    refine ⟨hs''.extBut _ _ ?_ (N' p hp).1, (N' p hp).2⟩
    rcases List.mem_cons.mp hp with rfl | hp
    · exact Ne.symm hCD
    · exact offC p hp
/-- an item of such a dict -/
theorem item_dict {value slice : Expr} {d : Addr} {ep : Nat} {kvs : List (Int × Value)} {k : Int} {t : Tok} {v : Value} {Q : Value → Shared → Prop} (F : Fr h₀ L s.heap m) (hd : h₀.DictAt (intKind prog w) d kvs ep) (hl : valueAt kvs k = some v) (h : Q v { s with toks := s.toks + 1 })
    (hs : subscripted slice false (.ref d) (.int k t) = operate [.ref d, .int k t] (getItem (.ref d) (.int k t)) := by with_unfolding_all rfl) : wpAny (model prog w) A (subscriptTail value slice (.ref d) (.int k t)) Q E s :=
  tail_any (hd.keep F.keep).dictOf.typeIs slot_dict_getitem.lookup (wpAny_getItem_of (intKind_is _ _ _ _) (hd.keep F.keep).dictOf.mapOf hl h) hs
end
end Mine
end
section
open PySem PySem.W PySem.Spec PySem.Calls PyProof.Rows
set_option Elab.async false
set_option maxRecDepth 100000
set_option maxHeartbeats 4000000
namespace Mine
section
variable {prog : Program} {w : World} {A : Around} {s : Shared} {K : Frag} {h₀ : Heap} {R : Result → Shared → Prop} {name qual : Str} {params : Arguments} {body : List Stmt} {scope : Scope} {dV kV doc pm cdv ct oc : Value} {an od : Option Addr} {osl : Array (Option Value)} {f : Addr} {args : Args} {binds : List (Str × Value)}
/-- enter a def some of whose names are captured -/
theorem enter_newC (G : Grow h₀ s.heap) (hz : h₀.objs.size ≤ s.heap.objs.size) (X₀ : K.In h₀) (hlim : h₀.NoLimit)
    (ho : K.lookup f = some ⟨oc, od, .func (fnOf name qual params body scope dV kV doc pm an cdv ct), osl⟩) (hcd : codeIn K cdv qual = true) (hroom : A.depth < recursionLimit)
    (hbind : BindsTo s (fnOf name qual params body scope dV kV doc pm an cdv ct) args binds) (hkind : (binds.all fun y => scope.names.lookup y.1 == some .local || scope.names.lookup y.1 == some .cell) = true)
    (hnd : ((cellsFrom 0 scope.names []).map (·.1)).Nodup)
    (h : ∀ L' h₁ tk cells, Fr h₀ L' h₁ (bindL (envOfC qual scope L' f cdv).kindOf binds fun _ => none) → News h₀ L' h₁ cells → CellsAre (bindC (envOfC qual scope L' f cdv).kindOf binds fun _ => none) (cellsFrom (L' + 1) scope.names []) cells →
      wpAny (model prog w) (A.deeper (envOfC qual scope L' f cdv)) (execs body (envOfC qual scope L' f cdv)) (fun fl s' => R (.ok (.ret (match fl with | .ret v => v | _ => .none))) s') (fun _ _ => False) { s with heap := h₁, toks := tk })
    (hco : scope.isCoroutine = false) (hgen : scope.isGenerator = false) (hk : scope.kind = .function) : codeAny (model prog w) A (.call (.ref f) args) R s := by
  have X := X₀.keeps G
  refine codeAny_call_function hroom (X _ _ ho) rfl hco hgen rfl (codeRec_of X hcd) (hbind _ _ _ _ ?_)
  refine wpAny_newFunctionEnv_cells hk (kindsX hkind _) fun env' he s' x => ?_
  subst he
  refine ⟨(hlim.keeps G).keeps x.toInCall.keep, codeAny_func ?_⟩
  obtain ⟨h₁, tk, rfl, _⟩ := x.done
  have hk₁ := x.toInCall.keep
  obtain ⟨cells, NC, Y⟩ := Cl.news (h₀ := s.heap) (Nat.le_refl _) fun n c hm => ⟨x.cell n c (lookup_of_mem_nodup (cellsFrom_names scope.names 0 (s.heap.objs.size + 1) [] [] rfl ▸ hnd) hm), x.above n c hm⟩
  refine wpAny_mono (h s.heap.objs.size h₁ tk cells ⟨x.toInCall.ns, fun b o e => hk₁ b o (G b o e), hz⟩ (fun p hp => ⟨(NC p hp).1, (NC p hp).2.1, ?_⟩) Y) (fun _ _ z => z) fun _ _ z => z.elim
  cases q : h₀.get? p.1 with
  | none => rfl
  | some o => have := G _ _ q; rw [(NC p hp).2.2] at this; cases this
end
end Mine
end
section
open PySem PySem.W PySem.Calls PyProof.Rows
set_option Elab.async false
set_option maxRecDepth 100000
set_option maxHeartbeats 4000000
namespace Mine
/-- around, with whatever guards -/
def AN (d u : Nat) : Around := { handled := none, depth := d, frames := none, guards := none, units := u }
theorem weakenN {α : Type} {M : Model} {A : Around} {d u : Nat} {t : Sem α} {Q : α → Shared → Prop} {E : Value → Shared → Prop} {s : Shared} (h1 : A.handled = none) (h2 : A.depth ≤ d) (h3 : A.units ≤ u) (h : wpAny M (AN d u) t Q E s) : wpAny M A t Q E s :=
  fun Γ p hΓ => h Γ p ⟨hΓ.1.trans h1, Nat.le_trans hΓ.2.1 h2, (by intro _ e; cases e), (by intro g e; cases e), Nat.le_trans hΓ.2.2.2.2 h3⟩
/-- an attribute of an object reads so -/
def Gets (prog : Program) (w : World) (h : Heap) (e : Addr) (name : Str) (v : Value) : Prop := ∀ (A : Around) (s : Shared) (Q E : Value → Shared → Prop) (expr : Bool), Grow h s.heap → Q v { s with toks := s.toks + 1 } → wpAny (model prog w) A (getAttr (.ref e) name expr) Q E s
/-- str of an object -/
def StrOk (prog : Program) (w : World) (h : Heap) (e : Addr) (t : Str) : Prop := ∀ (A : Around) (s : Shared) (Q E : Value → Shared → Prop), A.handled = none → A.depth ≤ 850 → A.units ≤ 4200 → Grow h s.heap →
  (∀ h' u tk, Grow s.heap h' → Q (.str t u) { s with heap := h', toks := tk }) → wpAny (model prog w) A (call (.type "str") [.ref e]) Q E s
def clsB (K : Frag) (C f : Addr) : Bool := excGet K C && hasDictIn K C && (clsIn K C).isSome && (findIn K (.ref C) "args" == some (some (.builtin "BaseException.args"))) && (specialIn K (.builtin "BaseException.args") "__get__" == some (some (.builtin "getset_descriptor.__get__"))) && (takesIn K (.builtin "BaseException.args") == some true) && (findIn K (.ref C) "__str__" == some (some (.ref f))) && (findIn K (.ref C) "__repr__" == some (some (.ref f))) && isFn K (.ref f)
def nameB (K : Frag) (C : Addr) (name : Str) : Bool := match findIn K (.ref C) name with
  | some attr => noGet K attr
  | none => false
section
variable {prog : Program} {w : World} {A : Around} {E : Value → Shared → Prop} {s : Shared} {h₀ h h' : Heap} {L e d ta C f : Addr} {od : Obj} {m : Str → Option Value} {news : List (Addr × Obj)} {v : Value} {name t : Str} {Q : Value → Shared → Prop} {K : Frag}
theorem Gets.grow (g : Gets prog w h e name v) (k : Grow h h') : Gets prog w h' e name v := fun A s Q E x a b => g A s Q E x (k.trans a) b
theorem StrOk.grow (g : StrOk prog w h e t) (k : Grow h h') : StrOk prog w h' e t := fun A s Q E a b c d x => g A s Q E a b c (k.trans d) x
theorem gets_use {expr : Bool} (g : Gets prog w h₀ e name v) (F : Fr h₀ L s.heap m) (q : Q v { s with toks := s.toks + 1 }) : wpAny (model prog w) A (getAttr (.ref e) name expr) Q E s := g A s Q E expr F.keep q
theorem gets_field (X : K.In h) (he : h.get? e = some (excObj C (some d) ta)) (hd : h.get? d = some od) (c : clsB K C f = true) (n : nameB K C name = true) (hl : lookIn name od = some (some v)) (hv : handedIn v = true) : Gets prog w h e name v := by
  intro A s Q E x g q
  simp only [clsB, Bool.and_eq_true] at c
  unfold nameB at n
  split at n
  · rename_i attr ha
    exact exc_get (X.keeps g) ⟨g _ _ he, rfl, rfl, g _ _ hd⟩ c.1.1.1.1.1.1.1.1 (findObj_own c.1.1.1.1.1.1.1.2 ha n hl) hv q
  · cases n
theorem gets_args (X : K.In h) (he : h.get? e = some (excObj C (some d) ta)) (hd : h.get? d = some od) (c : clsB K C f = true) : Gets prog w h e "args" (.ref ta) := by
  intro A s Q E x g q
  simp only [clsB, Bool.and_eq_true, beq_iff_eq] at c
  exact exc_get_args (X.keeps g) ⟨g _ _ he, rfl, rfl, g _ _ hd⟩ c.1.1.1.1.1.1.1.1 (findObj_data c.1.1.1.1.1.1.2 c.1.1.1.1.1.2 c.1.1.1.1.2 c.1.1.1.2) q
theorem strOk_of (X : K.In h) (he : h.get? e = some (excObj C (some d) ta)) (hd : h.get? d = some od) (c : clsB K C f = true) (tl : Tells prog w h f e t) : StrOk prog w h e t := by
  intro A s Q E a1 a3 a4 g q
  simp only [clsB, Bool.and_eq_true, beq_iff_eq] at c
  exact kso_call (od := some od) (units_ok (Nat.add_le_add_right a4 2) (by decide +kernel)) (X.keeps g) ⟨g _ _ he, rfl, rfl, g _ _ hd⟩ c.1.1.2 c.2 (tl _ _ _ _ a1 (Nat.le_trans a3 (by decide)) (Nat.le_trans (Nat.add_le_add_right a4 2) (by decide)) g fun h' u tk g' => q h' u tk g')
theorem repErr_of (X : K.In h) (he : h.get? e = some (excObj C (some d) ta)) (hd : h.get? d = some od) (c : clsB K C f = true) (tl : Tells prog w h f e t) (hl : t.length ≤ 1000000) : Rep prog w h (.ref e) t := by
  simp only [clsB, Bool.and_eq_true, beq_iff_eq] at c
  exact rep_inst (od := some od) X ⟨he, rfl, rfl, hd⟩ c.1.2 c.2 tl hl
theorem str_use (c : StrOk prog w h₀ e t) (F : Fr h₀ L s.heap m) (N : News h₀ L s.heap news) (h1 : A.handled = none) (h3 : A.depth ≤ 850) (h4 : A.units ≤ 4200)
    (q : ∀ h' u tk, Fr h₀ L h' m → News h₀ L h' news → Q (.str t u) { s with heap := h', toks := tk }) : wpAny (model prog w) A (call (.type "str") [.ref e]) Q E s :=
  c A s Q E h1 h3 h4 F.keep fun h' u tk g => q h' u tk (fr_grow F g) (news_grow N g)
end
end Mine
end
section
open PySem PySem.W PySem.Calls PyProof.Rows PySem.Builtin PySem.Builtin.ObjectAttr PySem.Builtin.Getset_descriptor
set_option Elab.async false
set_option maxRecDepth 100000
set_option maxHeartbeats 4000000
namespace Mine
section
variable {prog : Program} {w : World} {A : Around} {E : Value → Shared → Prop} {s : Shared} {K : Frag} {x C ta : Addr} {ox : Obj} {od : Option Obj} {name : Str} {Q : Option Value → Shared → Prop}
theorem exc_open? (X : K.In s.heap) (I : InstAt s.heap x ox C od) (hg : excGet K C = true)
    (h : codeAny (model prog w) A (.call (.builtin "BaseException.__getattribute__") ⟨[.ref x, .str name s.toks], []⟩) (fun r s' => match r with | .ok (.ret v) => wpAny (model prog w) A (handedOut v) (fun v s'' => Q (some v) s'') (fun _ _ => False) s' | _ => False) { s with toks := s.toks + 1 }) :
    wpAny (model prog w) A (getAttr? (.ref x) name) Q E s := by
  simp only [excGet, Bool.and_eq_true, beq_iff_eq] at hg
  obtain ⟨⟨h1, h2⟩, h3⟩ := hg
  obtain ⟨hh, g, d, t, os⟩ := s
  have L0 := I.type (M := model prog w)
  have L1 := looks_findIn (M := model prog w) X h1
  have L2 := looks_findIn (M := model prog w) X h2
  unfold getAttr? getAttrBy? getAttrBy
  refine wpAny_bind (wpAny_mkText (wpAny_bind (wpAny_attempt (wpAny_holding (wpAny_bind (L0.at (wpAny_bind (L1.at ?_))))))))
  dsimp only
  rw [show (onTheHeap (Value.ref C) && Value.builtin "BaseException.__getattribute__" == Value.builtin "object.__getattribute__") = false from by rw [show (Value.builtin "BaseException.__getattribute__" == Value.builtin "object.__getattribute__") = false from by decide +kernel, Bool.and_false], if_neg (by decide)]
  unfold getAttrByItsOwn
  refine wpAny_bind (L2.at (wpAny_bind (wpAny_attempt (wpAny_holding ?_))))
  unfold callGetattribute
  rw [show (false && onTheHeap (Value.builtin "BaseException.__getattribute__")) = false from rfl, if_neg (by decide)]
  unfold boundAndCalled
  rw [bga_bind]
  refine wpAny_bind (wpAny_pure (wpAny_call (codeAny_mono h fun r s' z => ?_)))
  rcases r with e | (v | _ | _ | _) <;> first | exact wpAny_mono z (fun v s'' hv => wpAny_pure hv) (fun _ _ z => z.elim) | exact z.elim
theorem exc_class {od : Obj} (X : K.In s.heap) (I : InstAt s.heap x ox C (some od)) (hg : excGet K C = true) (hd : hasDictIn K C = true) (ha : findIn K (.ref C) "__class__" = some (some (.builtin "object.__class__")))
    (hn : specialIn K (.builtin "object.__class__") "__get__" = some (some (.builtin "getset_descriptor.__get__"))) (htk : takesIn K (.builtin "object.__class__") = some true) (hm : mroIn K C (.type "object") = some true)
    (h : Q (some (.ref C)) { s with toks := s.toks + 1 }) : wpAny (model prog w) A (getAttr? (.ref x) "__class__") Q E s := by
  have hf : findObj K C (some od) "__class__" = some (.bind (.builtin "getset_descriptor.__get__") (.builtin "object.__class__")) := findObj_data (by obtain ⟨cd, hc, _⟩ := any_some hd; rw [hc]; rfl) ha hn htk
  refine exc_open? X I hg ?_
  simp only [excGet, Bool.and_eq_true, beq_iff_eq] at hg
  obtain ⟨⟨h1, h2⟩, h3⟩ := hg
  obtain ⟨hh, g, dr, t, os⟩ := s
  have L0 := I.type (M := model prog w)
  have L3 := looks_subIn (M := model prog w) X h3
  have L1 := looks_find (M := model prog w) X I hf
  refine codeAny_call_builtin bga_plain PySem.F.entry_bexc_ga (@check_slot (model prog w) _ _ ⟨hh, g, dr, t + 1, os⟩ "BaseException.__getattribute__" "BaseException" "__getattribute__" (.ref x) [.str "__class__" t] [] _ bga_kind bga_split (L0.andThen L3) (PySem.F.args_bexc_ga _ _) ?_)
  unfold Builtin.«object.__getattribute__»
  refine wpAny_bind (wpAny_pure (wpAny_bind (wpAny_pure (wpAny_bind (L0.at (wpAny_bind (L1.at ?_)))))))
  show wpAny _ _ (holding [.builtin "object.__class__"] (call (.builtin "getset_descriptor.__get__") [.builtin "object.__class__", .ref x, .ref C]) >>= ret) _ _ _
  refine wpAny_bind (wpAny_holding (wpAny_call ?_))
  refine class_get X I hm ?_
  refine wpAny_pure ?_
  exact handed_on rfl h
/-- an error for isinstance -/
def kitB (K : Frag) (C : Addr) : Bool := excGet K C && hasDictIn K C && (findIn K (.ref C) "__class__" == some (some (.builtin "object.__class__"))) && (specialIn K (.builtin "object.__class__") "__get__" == some (some (.builtin "getset_descriptor.__get__"))) && (takesIn K (.builtin "object.__class__") == some true) && (mroIn K C (.type "object") == some true)
theorem kitx_exc {od : Obj} (hk : kitB K C = true) : KitX K (.ref x) (.ref C) (fun h => InstAt h x ox C (some od)) := by
  simp only [kitB, Bool.and_eq_true, beq_iff_eq] at hk
  obtain ⟨⟨⟨⟨⟨hg, hdct⟩, ha⟩, hn⟩, htk⟩, hm⟩ := hk
  exact {
    ty := fun _ _ _ I => I.type
    it := fun _ _ X _ => by
      obtain ⟨cdD, hcD, _⟩ := any_some hdct
      unfold clsIn at hcD
      split at hcD
      · rename_i c' d' cd' sl' ho
        intro A' Q' E' s' k q
        unfold isType loadHead
        exact wpAny_bind (wpAny_loadPart (k _ _ (X _ _ ho)) (wpAny_pure q))
      · cases hcD
    ne := fun h tp dd its n sl X htp => by
      obtain ⟨cdD, hcD, _⟩ := any_some hdct
      refine Bool.eq_false_iff.mpr fun q => ?_
      have e : C = tp := Value.ref.inj (beq_iff_eq.mp q)
      subst e
      unfold clsIn at hcD
      split at hcD
      · rename_i c' d' cd' sl' ho
        have z := (X _ _ ho).symm.trans htp
        cases z
      · cases hcD
    ca := fun X I k => exc_class X I hg hdct ha hn htk hm k }
end
end Mine
end
section
open PySem PySem.W PySem.Calls PyProof.Rows
set_option Elab.async false
set_option maxRecDepth 100000
set_option maxHeartbeats 4000000
namespace Mine
section
variable {prog : Program} {w : World} {A : Around} {E : Value → Shared → Prop} {s : Shared} {env : Env} {h₀ : Heap} {target : Expr} {body : List Stmt} {Q : Flow → Shared → Prop}
theorem turns_idx {ax : Addr} {vs : List Value} {nn : Nat} {m₀ : Str → Option Value} {news : List (Addr × Obj)} (J : Nat → (Str → Option Value) → Prop)
    (hh : A.handled = none) (hl : (ax, listOf vs.toArray nn) ∈ news) (F : Fr h₀ env.locals s.heap m₀) (N : News h₀ env.locals s.heap news) (hj : J 0 m₀)
    (turn : ∀ i v m₁ h tk own, vs[i]? = some v → J i m₁ → Fr h₀ env.locals h m₁ → News h₀ env.locals h (news ++ own) →
      wpAny (model prog w) A (assign target env v) (fun _ s₃ => wpAny (model prog w) A (execs body env) (InvPost h₀ env.locals (J (i + 1)) (news ++ own) { s with heap := h, toks := tk } Q) E s₃) E { s with heap := h, toks := tk })
    (done : ∀ m₁ h tk, J vs.length m₁ → Fr h₀ env.locals h m₁ → News h₀ env.locals h news → Q .next { s with heap := h, toks := tk }) :
    wpAny (model prog w) A (pyIter (.ref ax)) (fun it s₂ => TurnsAt prog w A h₀ env target body Q E it s₂) E s := by
  have hol : s.heap.get? ax = some (listOf vs.toArray nn) := (N _ hl).1
  have hls : s.heap.IsList ax vs.toArray := ⟨_, hol, rfl, nn, rfl⟩
  have hne : ax ≠ s.heap.objs.size := Nat.ne_of_lt (Heap.lt_size hol)
  refine wpAny_pyIter_list hls ?_
  have W := KTurns.ofWalks (target := target) (Walks.list (prog := prog) (w := w) hh s.heap.objs.size ax hne vs.toArray) fun i v s Q E st q => letGo_listiter st.1 q
  refine ⟨_, _, _, _, _, _, _, m₀, news, (fun i m nx => nx = news ∧ J i m), rfl, W, ?_, ?_, ?_, ⟨⟨_, Heap.get?_push_size _ rfl, rfl, rfl⟩, hls.at fun o e => Heap.get?_push_of_some _ e⟩, F.push _, (fun p hp => ⟨Heap.get?_push_of_some _ (N p hp).1, (N p hp).2⟩), ⟨rfl, hj⟩, ?_, ?_⟩
  · intro hm
    rcases List.mem_cons.mp hm with e | hm
    · exact absurd F.ns.lt (e ▸ Nat.lt_irrefl _)
    · exact (N _ hl).2.1 ((List.mem_singleton.mp hm).symm)
  · intro b hb
    rw [List.mem_singleton.mp hb]
    exact next_is_new F
  · intro p hp hI
    exact absurd (Heap.lt_size (N p hp).1) ((List.mem_singleton.mp hI) ▸ Nat.lt_irrefl _)
  · rintro i v m₁ news₁ h₁ tk₁ own hin hP ⟨rfl, hJ⟩ hoff hown hget hall _ F₁ N₁
    have hP' : vs[i]? = some v := by simpa using hP
    have N₂ : News h₀ env.locals h₁ (news₁ ++ own) := fun p hp => N₁ p ((List.mem_append.mp hp).elim (fun h => List.mem_append.mpr (.inr h)) fun h => List.mem_append.mpr (.inl h))
    refine wpAny_mono (turn i v m₁ h₁ tk₁ own hP' hJ F₁ N₂) (fun _ s₃ z => wpAny_mono z (fun f s₂ p => ?_) fun _ _ e => e) fun _ _ e => e
    have fin : InvEnd h₀ env.locals (J (i + 1)) (news₁ ++ own) { s with heap := h₁, toks := tk₁ } s₂ → LoopStepU h₀ env.locals [s.heap.objs.size] own (fun m nx => nx = news₁ ∧ J (i + 1) m) { s with heap := h₁, toks := tk₁ } .next s₂ := by
      rintro ⟨h', tk, m', news', e, F', N', hn, hm⟩
      exact ⟨rfl, h', tk, m', news₁, e, F', fun p hp => N' p (hn p ((List.mem_append.mp hp).elim (fun h => List.mem_append.mpr (.inr h)) fun h => List.mem_append.mpr (.inl h))), hoff, rfl, hm⟩
    cases f with
    | ret v => exact .ret p
    | brk => exact .brk p
    | next => exact .next (fin p)
    | cont => exact .cont (fin p)
  · rintro h' tk m' news' F' N' _ ⟨rfl, hJ⟩
    exact done m' h' tk (by simpa using hJ) F' N'
end
end Mine
end
section
open PySem PySem.W PySem.Calls PyProof.Rows PySem.SeqAt
set_option Elab.async false
set_option maxRecDepth 100000
set_option maxHeartbeats 4000000
set_option linter.unusedVariables false
namespace Mine
section
variable {prog : Program} {w : World} {A : Around} {E : Value → Shared → Prop} {s : Shared} {h₀ : Heap} {L : Addr} {m : Str → Option Value} {news : List (Addr × Obj)} {Q : Value → Shared → Prop} {value slice : PySem.Expr}
theorem item_pos {l : Addr} {vs : List Value} {n : Nat} {j : Int} {u : Tok} {v : Value} (N : News h₀ L s.heap news) (hm : (l, listOf vs.toArray n) ∈ news) (k : Nat) (hj : j = k) (hx : vs[k]? = some v) (hl : vs.length ≤ 1000) (h : Q v s)
    (hs : subscripted slice false (.ref l) (.int j u) = operate [.ref l, .int j u] (getItem (.ref l) (.int j u)) := by with_unfolding_all rfl) :
    wpAny (model prog w) A (subscriptTail value slice (.ref l) (.int j u)) Q E s := by
  subst hj
  have hk : k < vs.length := by
    rcases Nat.lt_or_ge k vs.length with q | q
    · exact q
    · rw [List.getElem?_eq_none q] at hx; cases hx
  exact tail_any (News.isList N hm).typeIs slot_list_getitem.lookup (wpAny_getItem_list (News.isList N hm) (by omega) (by omega) (by simpa using hx) h) hs
end
end Mine
end
section
open PySem PySem.W PySem.Spec PySem.Calls PyProof.Rows PyProof.Rows.LCg
set_option Elab.async false
set_option maxRecDepth 100000
set_option maxHeartbeats 4000000
namespace Mine
def kvsOf : List Value → List (Int × Value)
  | [] => []
  | [a] => [((0 : Int), a)]
  | a :: b :: _ => [((0 : Int), a), ((1 : Int), b)]
section
variable {its : List Value}
def FKr (v : Value) (k : Int) : Prop := ∃ t, v = .int k t
def FVr (its : List Value) (v y : Value) : Prop := ∃ (i : Nat) (t : Tok), v = .int (i : Int) t ∧ its[i]? = some y
theorem storedR {l : List Value} {kvs : List (Int × Value)} (h : StoredAll FKr (FVr its) l kvs) : (∀ (j : Nat) v, l[j]? = some v → ∃ t, v = .int (j : Int) t) → kvs.length = l.length ∧ ∀ (j : Nat) k y, kvs[j]? = some (k, y) → k = (j : Int) ∧ its[j]? = some y := by
  induction h with
  | nil => exact fun _ => ⟨rfl, fun j k y h => by simp at h⟩
  | @snoc l kvs v k y hs hk hv ih =>
    intro hp
    obtain ⟨hl, ha⟩ := ih fun j v hj => hp j v (by
      rw [List.getElem?_append_left (by
        rcases Nat.lt_or_ge j l.length with q | q
        · exact q
        · rw [List.getElem?_eq_none q] at hj; cases hj)]; exact hj)
    obtain ⟨t, rfl⟩ := hp l.length v (by simp)
    obtain ⟨t2, e2⟩ := hk
    obtain ⟨i, t3, e3, hy⟩ := hv
    obtain rfl : k = (l.length : Int) := by injection e2 with a; exact a.symm
    obtain rfl : i = l.length := by injection e3 with a; omega
    have hno : valueAt kvs (l.length : Int) = none := by
      unfold valueAt
      rw [Option.map_eq_none_iff, List.find?_eq_none]
      intro p hp'
      obtain ⟨j, hj, rfl⟩ := List.getElem_of_mem hp'
      have := (ha j kvs[j].1 kvs[j].2 (List.getElem?_eq_getElem hj)).1
      simp only [decide_eq_true_eq]
      omega
    rw [stored_absent hno]
    refine ⟨by simp [hl], fun j k' y' hj => ?_⟩
    rcases Nat.lt_trichotomy j kvs.length with q | q | q
    · rw [List.getElem?_append_left q] at hj
      exact ha j k' y' hj
    · subst q
      rw [List.getElem?_append_right (Nat.le_refl _), Nat.sub_self] at hj
      cases hj
      exact ⟨by rw [hl], by rw [hl]; exact hy⟩
    · rw [List.getElem?_eq_none (by simp; omega)] at hj; cases hj
theorem kvs_is {kvs : List (Int × Value)} (hl : kvs.length = its.length) (h2 : its.length ≤ 2) (h : ∀ (j : Nat) k y, kvs[j]? = some (k, y) → k = (j : Int) ∧ its[j]? = some y) : kvs = kvsOf its := by
  match its, kvs, hl with
  | [], [], _ => rfl
  | [a], [(k, y)], _ =>
    obtain ⟨rfl, e⟩ := h 0 k y rfl
    cases e; rfl
  | [a, b], [(k, y), (k2, y2)], _ =>
    obtain ⟨rfl, e⟩ := h 0 k y rfl
    obtain ⟨rfl, e2⟩ := h 1 k2 y2 rfl
    cases e; cases e2; rfl
  | a :: b :: c :: r, _, _ => simp at h2
end
section
variable {prog : Program} {w : World} {A : Around} {E : Value → Shared → Prop} {s : Shared} {h₀ : Heap} {L : Addr} {m : Str → Option Value} {env : Env}
/-- a dict's object, keyed by the places of its values -/
def DictObj (prog : Program) (w : World) (D : Addr) (o : Obj) (its : List Value) : Prop := ∃ ep, ∀ h : Heap, h.get? D = some o → h.DictAt (intKind prog w) D (kvsOf its) ep
/-- the source is a short range, the values are items of a list that a cell holds -/
def SrcR (prog : Program) (w : World) (A : Around) (h₀ : Heap) (L : Addr) (m : Str → Option Value) (its : List Value) (y : Str) (cl : List (Str × Addr)) (Q : Value → Shared → Prop) (xv : Value) (s₁ : Shared) : Prop :=
  ∃ r t u v, ∃ n : Nat, ∃ news c oc ta tn, xv = .ref r ∧ A.handled = none ∧ Fr h₀ L s₁.heap m ∧ News h₀ L s₁.heap news ∧ IsRange s₁.heap r 0 (n : Int) 1 t u v ∧ n ≤ 2 ∧ its.length = n ∧
    cl.lookup y = some c ∧ (c, oc) ∈ news ∧ oc.data = .cell (some (.ref ta)) ∧ (ta, listOf its.toArray tn) ∈ news ∧
    ∀ D o h' tk, Fr h₀ L h' m → News h₀ L h' ((D, o) :: news) → (∀ p ∈ news, p.1 ≠ D) → DictObj prog w D o its → Q (.ref D) { s₁ with heap := h', toks := tk }
theorem nameC {x : Str} {pos : Pos} {C : Addr} {scope : Scope} {cl : List (Str × Addr)} {m₂ : Str → Option Value} {v : Value} {Q : Value → Shared → Prop} (hn : s.heap.Ns C m₂) (hv : m₂ x = some v) (h : Q v s)
    (hk : (compEnvC scope cl C env).scope.kind = .function) (hx : (compEnvC scope cl C env).kindOf x = some .local) (hd : (x == ("__debug__" : Str)) = false) : wpAny (model prog w) A (eval (.Name x pos) (compEnvC scope cl C env)) Q E s :=
  wpAny_Name (wpAny_loadName_local hk hx hn hv h) hd
theorem DictComp_R {its : List Value} {x y : Str} {px kp vp yp sp : Pos} {iter : Expr} {scope : Scope} {cl : List (Str × Addr)} {pos : Pos} {Q : Value → Shared → Prop} (F₀ : Fr h₀ L s.heap m)
    (hclos : closureFor scope env = pure cl) (hcell : ∀ z ∈ scope.names, z.2 ≠ .cell) (hkind : scope.kind = .function)
    (hnames : ∀ z ∈ scope.names, z.2 = .local → scope.names.lookup z.1 = some .local) (hx : scope.names.lookup x = some .local)
    (hx2 : ∀ C, (compEnvC scope cl C env).kindOf x = some .local) (hy2 : ∀ C, (compEnvC scope cl C env).kindOf y = some .cell) (hk2 : ∀ C, (compEnvC scope cl C env).scope.kind = .function) (hxd : (x == ("__debug__" : Str)) = false) (hyd : (y == ("__debug__" : Str)) = false)
    (h : wpAny (model prog w) A (eval iter env) (SrcR prog w A h₀ L m its y cl Q) E s)
    (hs : ∀ x, foldedSetIterable iter env x = pure x := by intro _; rfl) :
    wpAny (model prog w) A (eval (.DictComp (.Name x kp) (.Subscript (.Name y yp) (.Name x sp) vp) [⟨.Name x px, iter, [], 0⟩] scope pos) env) Q E s := by
  refine wpAny_DictComp_free (intKind prog w) (fun _ => true) FKr (FVr its) hclos hcell hkind hnames hx (wpAny_mono h (fun xv s₁ h₁ => ?_) fun _ _ e => e) hs
  obtain ⟨r, t, u, v, n, news, c, oc, ta, tn, rfl, hh, F, N, hr, hn, hlen, hc, hco, hcd, hta, fin⟩ := h₁
  have hrn : Builtin.Range.rangeSize 0 (n : Int) 1 = (n : Int) := by
    rcases (by omega : n = 0 ∨ n = 1 ∨ n = 2) with rfl | rfl | rfl <;> decide +kernel
  have hsm : Builtin.Range.small 0 (n : Int) 1 = true := by
    rcases (by omega : n = 0 ∨ n = 1 ∨ n = 2) with rfl | rfl | rfl <;> decide +kernel
  refine wpAny_pyIter_range hr hsm ?_
  have old : ∀ (s₃ : Heap), (∀ b o, b ∉ [s₁.heap.objs.size] → (s₁.heap.push { cls := .type "range_iterator", data := .fields #[rawInt 0, rawInt (Builtin.Range.rangeSize 0 (n : Int) 1), rawInt 1] }).get? b = some o → s₃.get? b = some o) → ∀ b o, s₁.heap.get? b = some o → s₃.get? b = some o :=
    fun s₃ hk b o e => hk b o (fun hm => Nat.ne_of_lt (Heap.lt_size e) (List.mem_singleton.mp hm)) (Heap.get?_push_of_some _ e)
  refine ⟨s₁.heap.objs.size, [s₁.heap.objs.size], [s₁.heap.objs.size], n, _, _, rfl, (Walks.range hh s₁.heap.objs.size 0 1 n).bound, Nat.le_trans hn (by rw [sizeLine_eq]; decide), ?_, ?_, ⟨?_, ?_, ?_⟩, ?_⟩
  · show IsRangeIter _ _ _ _ _
    rw [hrn]; simpa using Heap.get?_push_size _ rfl
  · intro b hb
    rw [List.mem_singleton.mp hb]
    show s₁.heap.objs.size < (s₁.heap.push _).objs.size
    rw [Heap.size_push]; exact Nat.lt_succ_self _
  · intro C i v s₃ m₃ E' hP hns hm hk
    rw [List.forIn_nil]
    exact wpAny_pure ⟨rfl, s₃.heap, s₃.toks, rfl, fun _ _ e => e⟩
  · rintro C i v s₃ m₃ E' ⟨hi, t', rfl⟩ _ hns hm hk
    exact nameC hns hm ⟨⟨_, intKind_is _ _ _ _, _, rfl⟩, s₃.heap, s₃.toks, rfl, fun _ _ e => e⟩ (hk2 C) (hx2 C) hxd
  · rintro C i v s₃ m₃ E' ⟨hi, t', rfl⟩ _ hns hm hk
    have N3 : News h₀ L s₃.heap news := fun p hp => ⟨old _ hk _ _ (N p hp).1, (N p hp).2⟩
    have hi2 : i < its.length := by omega
    refine Subscript_ (lcf_cell N3 hc hco hcd ?_ (hk2 C) (hy2 C) hyd)
    refine nameC hns hm ?_ (hk2 C) (hx2 C) hxd
    refine item_pos N3 hta i (by omega) (List.getElem?_eq_getElem hi2) (by omega) ?_
    exact ⟨⟨i, t', by rw [show (0 : Int) + (i : Int) * 1 = (i : Int) by omega], List.getElem?_eq_getElem hi2⟩, s₃.heap, s₃.toks, rfl, fun _ _ e => e⟩
  · intro D h' tk kvs vs hD hd hvl hv hst hk
    have hvs : vs.filter (fun _ => true) = vs := List.filter_eq_self.mpr fun _ _ => rfl
    rw [hvs] at hst
    obtain ⟨e1, e2⟩ := storedR hst fun j v hj => by
      obtain ⟨_, t', e⟩ := hv j v hj
      exact ⟨t', by rw [e, show (0 : Int) + (j : Int) * 1 = (j : Int) by omega]⟩
    have e3 : kvs = kvsOf its := kvs_is (by omega) (by omega) e2
    subst e3
    obtain ⟨o, es, ep, ho, r1, r2, r3, r4, r5⟩ := hd
    have k1 := old _ hk
    have hD1 : s₁.heap.get? D = none := by
      cases q : s₁.heap.get? D with
      | none => rfl
      | some ob => have := Heap.get?_push_of_some { cls := .type "range_iterator", data := .fields #[rawInt 0, rawInt (Builtin.Range.rangeSize 0 (n : Int) 1), rawInt 1] } q; rw [hD] at this; cases this
    refine fin D o h' tk (F.keeps k1) (fun p hp => ?_) (fun p hp e => ?_) ⟨ep, fun h ho' => ⟨o, es, ho', r1, r2, r3, r4, r5⟩⟩
    · rcases List.mem_cons.mp hp with rfl | hp
      · refine ⟨ho, fun e => ?_, ?_⟩
        · obtain ⟨oL, _, _, hL, _⟩ := F.ns
          dsimp only at e
          rw [e, hL] at hD1; cases hD1
        · cases q : h₀.get? D with
          | none => rfl
          | some ob => rw [F.keep _ _ q] at hD1; cases hD1
      · exact ⟨k1 _ _ (N p hp).1, (N p hp).2⟩
    · have := (N p hp).1
      rw [e, hD1] at this; cases this
end
end Mine
end
section
open PySem PySem.W PySem.Calls PyProof.Rows
set_option Elab.async false
set_option maxRecDepth 100000
set_option maxHeartbeats 4000000
namespace Mine
section
variable {prog : Program} {w : World} {A : Around} {E : Value → Shared → Prop} {s : Shared} {env : Env} {h₀ : Heap} {x : Str} {body : List Stmt} {Q : Flow → Shared → Prop}
/-- a loop over whole numbers that keeps the ledger and every name that it does not store -/
theorem loopK {l : Addr} {vs : List Value} {ns : List Int} {m₀ : Str → Option Value} {news : List (Addr × Obj)} (stored : List Str)
    (hh : A.handled = none) (hi : IntsAre vs ns) (F : Fr h₀ env.locals s.heap m₀) (N : News h₀ env.locals s.heap ((l, listOf vs.toArray 0) :: news))
    (turn : ∀ pre post n t (u : Str → Option Value) h tk own, ns = pre ++ n :: post → n ∈ ns →
      Fr h₀ env.locals h (fun y => if y = x then some (.int n t) else if stored.contains y then u y else m₀ y) → News h₀ env.locals h (((l, listOf vs.toArray 0) :: news) ++ own) →
      wpAny (model prog w) A (execs body env) (InvPostN h₀ env.locals (KstS (σ := Unit) (fun _ => (l, listOf vs.toArray 0) :: news) (fun _ => []) (fun _ => True) x stored m₀ (fun _ _ => True) (pre ++ [n])) own (((l, listOf vs.toArray 0) :: news).map (·.1)) { s with heap := h, toks := tk } Q) E { s with heap := h, toks := tk })
    (done : ∀ (m : Str → Option Value) h tk, Fr h₀ env.locals h m → Q .next { s with heap := h, toks := tk }) :
    wpAny (model prog w) A (pyIter (.ref l)) (fun it s₂ => LoopAtV prog w A h₀ env x body Q E it s₂) E s :=
  kst_listL (nn := 0) (σ := Unit) (fun _ => (l, listOf vs.toArray 0) :: news) (fun _ => []) (fun _ => True) stored (fun _ _ => True) () hh (fun _ => List.Mem.head _) hi F N trivial
    (List.forall_mem_nil _) trivial (fun c pre post n t u h tk own e1 e2 _ _ i f nw => turn pre post n t u h tk own e1 e2 f nw) (fun c u h tk _ _ f _ => done _ h tk f)
theorem turnK_end {l : Addr} {vs : List Value} {m₀ m' : Str → Option Value} {news news' own : List (Addr × Obj)} {stored : List Str} {L : Addr} {pre : List Int} {h' : Heap} {tk : Nat} (F : Fr h₀ L h' m') (N : News h₀ L h' news') (hsub : ∀ p ∈ ((l, listOf vs.toArray 0) :: news) ++ own, p ∈ news')
    (hm : ∀ z, z ≠ x → stored.contains z = false → m' z = m₀ z) :
    InvPostN h₀ L (KstS (σ := Unit) (fun _ => (l, listOf vs.toArray 0) :: news) (fun _ => []) (fun _ => True) x stored m₀ (fun _ _ => True) pre) own (((l, listOf vs.toArray 0) :: news).map (·.1)) s Q .next { s with heap := h', toks := tk } :=
  ⟨h', tk, m', news', _, rfl, F, N, fun p hp => hsub p (List.mem_append_left _ hp), fun p hp => hsub p (List.mem_append_right _ hp), rfl, (), rfl, trivial, List.forall_mem_nil _, fun z hz _ hs => hm z hz hs, trivial⟩
/-- a statement that leaves frame and ledger as they are -/
def JoinedS (h₀ : Heap) (L : Addr) (m : Str → Option Value) (news : List (Addr × Obj)) (s : Shared) (fl : Flow) (s' : Shared) : Prop := fl = .next ∧ ∃ h' tk, s' = { s with heap := h', toks := tk } ∧ Fr h₀ L h' m ∧ News h₀ L h' news
theorem joinS_ {M : Model} {L : Addr} {m : Str → Option Value} {news : List (Addr × Obj)} {t : Sem Flow} (F : Fr h₀ L s.heap m) (N : News h₀ L s.heap news) (h1 : wpAny M A t (JoinedS h₀ L m news s) E s)
    (h2 : ∀ h' tk, Fr h₀ L h' m → News h₀ L h' news → Q .next { s with heap := h', toks := tk }) : wpAny M A t Q E s :=
  wpAny_mono h1 (fun _ _ ⟨e, h', tk, e', F', N'⟩ => by subst e; subst e'; exact h2 h' tk F' N') fun _ _ z => z
theorem joinedS_ {L : Addr} {m : Str → Option Value} {news news' : List (Addr × Obj)} {h' : Heap} {tk : Nat} (F : Fr h₀ L h' m) (N : News h₀ L h' news') (hs : ∀ q ∈ news, q ∈ news') : JoinedS h₀ L m news s .next { s with heap := h', toks := tk } := ⟨rfl, h', tk, rfl, F, fun q hq => N q (hs q hq)⟩
theorem joinQ_ {M : Model} {L : Addr} {m : Str → Option Value} {news : List (Addr × Obj)} {t : Sem Flow} (F : Fr h₀ L s.heap m) (N : News h₀ L s.heap news)
    (h1 : ∀ Q' : Flow → Shared → Prop, (∀ h' tk, Fr h₀ L h' m → News h₀ L h' news → Q' .next { s with heap := h', toks := tk }) → wpAny M A t Q' E s)
    (h2 : ∀ h' tk, Fr h₀ L h' m → News h₀ L h' news → Q .next { s with heap := h', toks := tk }) : wpAny M A t Q E s := h1 Q h2
theorem post_gen {M : Model} {t : Sem Flow} (h : ∀ Q' : Flow → Shared → Prop, (∀ f s', Q f s' → Q' f s') → wpAny M A t Q' E s) : wpAny M A t Q E s := h Q fun _ _ z => z
end
end Mine
end
section
open PySem PySem.W PySem.Calls PyProof.Rows PyProof.V
set_option Elab.async false
set_option maxRecDepth 100000
set_option maxHeartbeats 1000000
namespace Mine
section
variable {prog : Program} {w : World} {A : Around} {E : Value → Shared → Prop} {s : Shared} {h₀ : Heap} {L : Addr} {Q : Value → Shared → Prop} {a b : Addr} {news : List (Addr × Obj)}
/-- two lists that read alike are not unequal -/
theorem ne_alike {xs ys : List Value} {ds : List PyData} {n1 n2 : Nat} {as bs : List Addr} (N : News h₀ L s.heap news) (ha : (a, listOf xs.toArray n1) ∈ news) (hb : (b, listOf ys.toArray n2) ∈ news) (rx : ReadsAll s.heap xs ds as) (ry : ReadsAll s.heap ys ds bs)
    (hs : SeqAt.shaped (.list ds) = true) (hu : A.units + 64 < cLine) (he : PyData.eqvAll ds ds = true) (h : Q (.bool false) s) : wpAny (model prog w) A (compareOp .NotEq (.ref a) (.ref b)) Q E s :=
  ne_dataH (reads_list_at (N.get ha) rfl rfl (by simpa using rx)) (reads_list_at (N.get hb) rfl rfl (by simpa using ry)) hs hs hu (by rw [show PyData.eqv (.list ds) (.list ds) = true by simpa [PyData.eqv] using he]; exact h)
theorem reads_tup {h : Heap} {t : Addr} {vs : List Value} {ds : List PyData} {as : List Addr} {h₀ : Heap} {L : Addr} {news : List (Addr × Obj)} (N : News h₀ L h news) (ht : (t, ({ cls := .type "tuple", data := .seq vs.toArray } : Obj)) ∈ news) (r : ReadsAll h vs ds as) : Reads h (.ref t) (.tuple ds) as :=
  reads_tuple_at (N.get ht) rfl rfl (by simpa using r)
end
theorem strOk_app (a b : Str) : PyData.strOk (a ++ b) = (PyData.strOk a && PyData.strOk b) := by
  unfold PyData.strOk
  rw [PySem.Str.cps_append, Array.all_append]
theorem strOk_fig (n : Int) : PyData.strOk (fig2 n) = true := by
  unfold PyData.strOk fig2 numDigits
  simp only [List.all_toArray, List.all_append, Bool.and_eq_true, List.all_eq_true]
  refine ⟨fun x hx => ?_, ?_, fun x hx => ?_⟩
  · rw [(List.mem_replicate.mp hx).2]; decide
  · split <;> simp
  · obtain ⟨c, _, rfl⟩ := List.mem_map.mp hx
    have := c.valid
    have h2 : c.toNat < 0x110000 := by
      rcases this with h | h
      · exact Nat.lt_of_lt_of_le h (by decide)
      · exact h.2
    simpa using h2
end Mine
end
section
open PySem PySem.W PySem.Spec PySem.Calls PyProof.Rows
set_option Elab.async false
set_option maxRecDepth 100000
set_option maxHeartbeats 4000000
set_option linter.unusedVariables false
namespace Mine
/-- the one context in which a claim's call begins -/
def ctx0 : PySem.Ctx := ⟨.builtin "claim.caller" {}, none, none, [], none⟩
/-- what holds of a tree in that context alone -/
def wpC {α : Type} (M : Model) (t : Sem α) (Q : α → Shared → Prop) (E : Value → Shared → Prop) (s : Shared) : Prop := ∀ p, Sem.wp M ctx0 t (fun a _ s' => Q a s') (fun e _ s' => E e s') p s
theorem wpC_any {α : Type} {M : Model} {t : Sem α} {Q : α → Shared → Prop} {E : Value → Shared → Prop} {s : Shared} (h : wpAny M callerA t Q E s) : wpC M t Q E s := fun p => h ctx0 p caller_in
theorem wpC_bind {α β : Type} {M : Model} {m : Sem α} {f : α → Sem β} {Q : β → Shared → Prop} {E : Value → Shared → Prop} {s : Shared} (h : wpC M m (fun a s' => wpC M (f a) Q E s') E s) : wpC M (m >>= f) Q E s := fun p => by
  rw [Sem.wp_bind']
  exact Sem.wp_mono M ctx0 m (fun a p' s' h' => h' p') (fun _ _ _ h' => h') p s (h p)
theorem wpC_mono {α : Type} {M : Model} {t : Sem α} {Q Q' : α → Shared → Prop} {E E' : Value → Shared → Prop} {s : Shared} (h : wpC M t Q E s) (hQ : ∀ a s, Q a s → Q' a s) (hE : ∀ e s, E e s → E' e s) : wpC M t Q' E' s :=
  fun p => Sem.wp_mono M ctx0 t (fun a _ s => hQ a s) (fun e _ s => hE e s) p s (h p)
/-- from the context of the caller to the claim's words on a call -/
theorem callC0 {c : ClaimW} {tree : List Value → Sem Fin} {w : World} {s : Shared} {free : Addr → Prop} {gens : Prop} {kept : Heap → Prop} (hz : s.asleep) (hgens : s.gens = #[])
    (H : ∀ args, c.pre args = true → WData.layableAll args = true → ∀ ord : List DictEntry → List DictEntry, (∀ l, (ord l).Perm l) →
      ∃ vs s₁, layAllW c.records (classAt s.heap) w.params ord args s = some (vs, s₁) ∧
        wpC (model c.prog w) (tree vs) (fun fin s' => ∃ f, fin = .done f ∧ (c.Ends s args vs s₁ (.ok f) s' ∧ s'.os = s.os ∧ AllBare s'.gens ∧ kept s'.heap)) (fun e s' => c.Ends s args vs s₁ (.error e) s' ∧ s'.os = s.os ∧ AllBare s'.gens ∧ kept s'.heap) s₁) :
    c.CallFrom (fun vs => ⟨tree vs, .builtin "claim.caller" {}, default, []⟩) w free gens kept s := by
  intro args hpre hlay ord hord
  obtain ⟨vs, s₁, hlaid, hrun⟩ := H args hpre hlay ord hord
  have hal := layAllW_rest _ _ _ hlaid
  have hfin : Sem.wp (model c.prog w) ctx0 (tree vs) (Sem.finPost (model c.prog w) ctx0 fun r s' => (c.Ends s args vs s₁ r s' ∧ s'.os = s.os ∧ kept s'.heap) ∧ leftWithCleanup s'.gens = false)
      (fun e _ s' => (c.Ends s args vs s₁ (.error e) s' ∧ s'.os = s.os ∧ kept s'.heap) ∧ leftWithCleanup s'.gens = false) default s₁ := by
    refine Sem.wp_mono _ ctx0 _ (fun fin p' s' h => ?_) (fun e _ s' h => ⟨⟨h.1, h.2.1, h.2.2.2⟩, leftWithCleanup_false_of_bare h.2.2.1⟩) _ _ (hrun default)
    obtain ⟨f, rfl, h1, h2, h3, h4⟩ := h
    exact ⟨⟨h1, h2, h4⟩, leftWithCleanup_false_of_bare h3⟩
  obtain ⟨k, r, s'', s', hsched, hn, hfo, hcase, hos, hkp⟩ := wp_halts_full (M := model c.prog w) (R := fun r s' => c.Ends s args vs s₁ r s' ∧ s'.os = s.os ∧ kept s'.heap) (Shared.asleep_of_life hal.2.2.2 hz) hfin
  obtain ⟨eh, _, _, eo, _⟩ := Shared.forget_eq hfo
  have hcase := hcase.congr eh
  have hkp : kept s'.heap := eh ▸ hkp
  rw [← eo] at hos
  have hlife : s'.heap.life = s.heap.life := (runN_life _ _ _ hn).trans hal.2.2.2
  refine ⟨vs, s₁, hlaid, k, _, s', hsched, ?_, (fun _ i x hx => by rw [hgens] at hx; simp at hx), hkp, by rw [hlife], Shared.rest_eq hos⟩
  rcases hcase with ⟨v, rfl, d1, d2, d3, d4, d5⟩ | ⟨e, ob, cls, rfl, d1, d2, d3, d4, d5⟩
  · exact .inl ⟨v, rfl, d1, d2, d3, fun b o y _ => d4 b o y, d5⟩
  · exact .inr ⟨e, ob, cls, rfl, d1, d2, d3, d4, fun b o y _ => d5 b o y⟩
/-- the walk that a law is left with, in the caller's context -/
abbrev WalkC (q : Program) (loose : List Str) (XP : (Str → Option Value) → Heap → Prop) {α : Type} (Yf : Shared → α) (Ya : World → α) (r : RowW) (d : DefRec) (kwd : List (Str × Expr)) : Prop :=
  ∀ (w : World) (s₀ s₁ : Shared) (mg mb : Str → Option Value), Ground q loose r.records XP w s₀ mg mb s₁.heap → Yf s₀ = Ya w → ∀ (a : Addr) (o : Obj) (pm cd doc dV kV : Value), s₁.heap.get? a = some o →
    o.data = .func { docDef d.name d.params d.body d.scope pm cd doc with defaults := dV, kwdefaults := kV } → s₁.heap.CodeRec cd d.name → Dflts mg s₁.heap d.params kwd dV kV → mg d.name = some (.ref a) → s₁.gens = #[] →
    ∀ (args : List WData) (vals : List Value) (as : List Addr), Laid r.records w s₀ s₁ args vals as → r.claim.pre args = true → WData.layableAll args = true → ReadsAllW r.records (classAt s₀.heap) s₁.heap vals args as → WellAll w.params s₁.heap vals args → (∀ a ∈ as, (a == sysModules) = false) →
      wpC (model r.prog w) (PySem.call (.ref a) vals) (fun v s' => GoodWG r.claim (classAt s₀.heap) (ExcName.means s₀.heap) args s₁ (.ok (.ret v)) s')
        (fun e s' => GoodWG r.claim (classAt s₀.heap) (ExcName.means s₀.heap) args s₁ (.error e) s') s₁
theorem PySem.W.holds_openX {r : OpenRow} {q : Program} {loose : List Str} {Xt : Shared → Bool} {XP : (Str → Option Value) → Heap → Prop} {α : Type} {Yf : Shared → α} {Ya : World → α} {d : DefRec} {kwd : List (Str × Expr)} {N : Nat}
    (left : LeftO r.prog q loose Xt Yf Ya N) (hX : ∀ s, Xt s = true → XP (s.heap.nsMap mainGlobals) s.heap) (hXk : ∀ mg h h', XP mg h → (∀ b o, h.get? b = some o → h'.get? b = some o) → XP mg h')
    (hdef : defOf q r.name = some (d, kwd)) (hp : r.prog.theDef r.name = some (d.params, d.body, d.scope)) (hk : kwWritten? d.params.kwonlyargs d.params.kw_defaults = some kwd) (hRf : ∀ s, Xt s = true → RecFacts r.records s.heap) (hwr : (!r.writes || r.records.isEmpty) = true)
    (k1 : r.wellSaid = true) (ok : (chainsOk q && opensWell r.prog && (frees r.toRowW && r.within.isEmpty)) = true) (hb : r.prog.bare) (hw : r.toRowW.promised) (walk : WalkC q loose XP Yf Ya r.toRowW d kwd) : r.Holds := by
  obtain ⟨ok1, ok2⟩ := Bool.and_eq_true_iff.mp ok
  obtain ⟨hch, o1⟩ := Bool.and_eq_true_iff.mp ok1
  obtain ⟨k5, k6⟩ := Bool.and_eq_true_iff.mp ok2
  obtain ⟨hsame, hu, ha, hap, hm⟩ := frees_parts k5
  refine ⟨k1, hw, ⟨hb, o1, by show r.toRowW.makers.map _ = []; rw [hm]; rfl⟩, RowW.promised.witness hw, fun w => ⟨(left.behind hX hch w).1, fun s' hs' => ?_⟩⟩
  obtain ⟨s₀, hf, hg0, s, hT, hz, hgens, hg, G00, y⟩ := (left.behind (XP := fun mg h => XP mg h ∧ RecFacts r.records h) (fun s hs => ⟨hX s hs, hRf s hs⟩) hch w).2 s' hs'
  have G0 : Ground q loose [] XP w s (s.heap.nsMap mainGlobals) (s.heap.nsMap builtinsNs) s.heap := ⟨G00.T, G00.B, G00.D, G00.TE, G00.TD, G00.W, G00.X.1, G00.cls, G00.has, G00.apart, G00.once, G00.K⟩
  have RF := G00.X.2
  have pin : ∀ n ∈ [r.name], isTheDefsW r.prog s.heap n := fun n hn => by
    obtain rfl : n = r.name := List.mem_singleton.mp hn
    exact pinned_of_view hg G0 hdef hp hk
  refine ⟨s₀, hf, hg0, s, hT, fun n hn => pin n (by split at hn <;> simp_all), RF.1, RF.2.1, ?_⟩
  have hgens : s.gens = #[] := Array.eq_empty_of_size_eq_zero (beq_iff_eq.mp hgens)
  have G : Ground q loose r.records XP w s _ _ s.heap := RF.ground G0
  refine callC0 (c := r.toRowW.claim) hz hgens fun args hpre hlay ord hord => ?_
  obtain ⟨⟨vs, s₁⟩, hlaid⟩ := Option.isSome_iff_exists.mp (layAllW_isSome (P := w.params) (ord := ord) G.has args r.toRowW.args s (pre_splitW hpre).1)
  have keeps := layAllW_keeps _ _ _ hlaid
  have hal := layAllW_rest _ _ _ hlaid
  obtain ⟨as, hrd, hin, hold⟩ := reads_layAllW hord _ _ _ hlaid hlay s₁.heap (fun _ _ e => e)
  have L : Laid r.records w s s₁ args vs as := ⟨⟨ord, hord, hlaid⟩, hrd, hin, hold, keeps, hal.1.trans hgens, hal.2.2.1⟩
  have G1 := G.keeps hXk keeps
  obtain ⟨a, o, pm, cd, doc, dV, kV, h1, h2, h3, h4, h5⟩ := G1.fn hdef
  have run := walk w s s₁ _ _ G1 y a o pm cd doc dV kV h2 h3 h4 h5 (defOf_name hdef ▸ h1) L.gens args vs as L hpre hlay L.reads L.well (L.low G.low)
  have hi := ident_freeW hu ha hap
  have hwi : r.toRowW.claim.within = [] := List.isEmpty_iff.mp k6
  have done : ∀ {res : Result} {s' : Shared}, GoodWG r.toRowW.claim (classAt s.heap) (ExcName.means s.heap) args s₁ res s' → _ := fun {res s'} g => g.laid (c := r.toRowW.claim) hsame hwi hi L
  refine ⟨vs, s₁, hlaid, wpC_bind (wpC_any (wpAny_nsGet G1.T.g ?_))⟩
  rw [h1]
  refine wpC_bind (wpC_mono run (fun v s' g => ?_) fun e s' g => ?_)
  · exact wpC_any (wpAny_pure ⟨_, rfl, (done g).1, (done g).2.1, (done g).2.2, fun q => ⟨namesKept_of hT hg _ keeps g.2.1.old, noTable hwr q⟩⟩)
  · exact ⟨(done g).1, (done g).2.1, (done g).2.2, fun q => ⟨namesKept_of hT hg _ keeps g.2.1.old, noTable hwr q⟩⟩
end Mine
end
section
open PySem PySem.W PySem.Calls PyProof.Rows
set_option Elab.async false
set_option maxRecDepth 100000
set_option maxHeartbeats 4000000
set_option linter.unusedVariables false
namespace Mine
/-- a claim's caller stands below -/
def HasC (Γ : PySem.Ctx) : Prop := (Γ.below.map (·.1)).any Code.isCaller = true
def wpH {α : Type} (M : Model) (A : Around) (t : Sem α) (Q : α → Shared → Prop) (E : Value → Shared → Prop) (s : Shared) : Prop := ∀ Γ p, Γ.In A → HasC Γ → Sem.wp M Γ t (fun a _ s' => Q a s') (fun e _ s' => E e s') p s
def codeH (M : Model) (A : Around) (c : Code) (R : Result → Shared → Prop) (s : Shared) : Prop := ∀ Γ p, Γ.code = c → Γ.Below A → HasC Γ → wpCode M Γ R p s
section
variable {α β : Type} {M : Model} {A : Around} {E : Value → Shared → Prop} {s : Shared}
theorem wpH_any {t : Sem α} {Q : α → Shared → Prop} (h : wpAny M A t Q E s) : wpH M A t Q E s := fun Γ p hΓ _ => h Γ p hΓ
theorem wpH_mono {t : Sem α} {Q Q' : α → Shared → Prop} {E' : Value → Shared → Prop} (h : wpH M A t Q E s) (hQ : ∀ a s, Q a s → Q' a s) (hE : ∀ e s, E e s → E' e s) : wpH M A t Q' E' s :=
  fun Γ p hΓ hc => Sem.wp_mono M Γ t (fun a _ s => hQ a s) (fun e _ s => hE e s) p s (h Γ p hΓ hc)
theorem wpH_bind {m : Sem α} {f : α → Sem β} {Q : β → Shared → Prop} (h : wpH M A m (fun a s' => wpH M A (f a) Q E s') E s) : wpH M A (m >>= f) Q E s := fun Γ p hΓ hc => by
  rw [Sem.wp_bind']
  exact Sem.wp_mono M Γ m (fun a p' s' h' => h' Γ p' hΓ hc) (fun _ _ _ h' => h') p s (h Γ p hΓ hc)
theorem wpH_step {m : Sem α} {f : α → Sem β} {Q : β → Shared → Prop} (h : wpAny M A m (fun a s' => wpH M A (f a) Q E s') E s) : wpH M A (m >>= f) Q E s := wpH_bind (wpH_any h)
theorem wpH_attempt {m : Sem α} {Q : Except Value α → Shared → Prop} (h : wpH M A m (fun a => Q (.ok a)) (fun e => Q (.error e)) s) : wpH M A m.attempt Q E s := fun Γ p hΓ hc => by rw [Sem.wp_attempt]; exact h Γ p hΓ hc
theorem wpH_onRaise {m : Sem α} {k : Value → Sem Unit} {Q : α → Shared → Prop} (h : wpH M A m Q (fun e s' => wpAny M A (k e) (fun _ s'' => E e s'') E s') s) : wpH M A (m.onRaise k) Q E s := fun Γ p hΓ hc => by
  rw [Sem.wp_onRaise]
  exact Sem.wp_mono M Γ m (fun _ _ _ h' => h') (fun e p' s' h' => h' Γ p' hΓ) p s (h Γ p hΓ hc)
theorem wpH_holding {vs : List Value} {m : Sem α} {Q : α → Shared → Prop} (h : wpH M A m Q E s) : wpH M A (holding vs m) Q E s := fun Γ p hΓ hc => by rw [Sem.wp_holding]; exact h Γ p hΓ hc
theorem hasC_enter {Γ : PySem.Ctx} {c : Code} {hd : Option Value} {p : Pos} (h : HasC Γ) : HasC (Γ.enter c hd p) := by
  show (((Γ.code, p) :: Γ.below).map (·.1)).any Code.isCaller = true
  unfold HasC at h
  rw [List.map_cons, List.any_cons, h, Bool.or_true]
theorem wpH_call {f : Value} {pos : List Value} {kw : List (Str × Value)} {Q : Value → Shared → Prop} (h : codeH M A (.call f ⟨pos, kw⟩) (fun r s' => match r with | .ok (.ret v) => Q v s' | .ok _ => False | .error e => E e s') s) : wpH M A (call f pos kw) Q E s := fun Γ p hΓ hc => by
  show Sem.wp M Γ (runValue _) _ _ p s
  rw [Sem.wp_runValue]
  exact h _ p rfl (hΓ.enter _ none p (by intro x; cases x)) (hasC_enter hc)
theorem wpC_call {f : Value} {pos : List Value} {kw : List (Str × Value)} {Q : Value → Shared → Prop} (h : codeH M callerA (.call f ⟨pos, kw⟩) (fun r s' => match r with | .ok (.ret v) => Q v s' | .ok _ => False | .error e => E e s') s) : wpC M (call f pos kw) Q E s := fun p => by
  show Sem.wp M ctx0 (runValue _) _ _ p s
  rw [Sem.wp_runValue]
  exact h _ p rfl (caller_in.enter _ none p (by intro x; cases x)) rfl
theorem codeH_tree {c : Code} {R : Result → Shared → Prop} (h : wpH M (A.under c) (M.den c) (fun fin s' => match fin with | .done f => R (.ok f) s' | .again c' => c'.quiet = true ∧ codeH M A c' R s') (fun e s' => R (.error e) s') s) : codeH M A c R s := fun Γ p hc hΓ hh => by
  rw [wpCode_iff_wp, hc]
  refine Sem.wp_mono M Γ _ (fun fin p' s' h' => ?_) (fun _ _ _ h' => h') p s (h Γ p (hc ▸ hΓ.in) hh)
  cases fin with
  | done f => exact h'
  | again c' => exact ⟨h'.1, h'.2 (Γ.goto c') p' rfl (hΓ.goto c') hh⟩
theorem codeH_any {c : Code} {R : Result → Shared → Prop} (h : codeAny M A c R s) : codeH M A c R s := fun Γ p hc hΓ _ => h Γ p hc hΓ
end
section
variable {prog : Program} {w : World} {A : Around} {E : Value → Shared → Prop} {s : Shared} {R : Result → Shared → Prop} {env : Env}
theorem codeH_func {body : List Stmt} (h : wpH (model prog w) (A.deeper env) (execs body env) (fun f s' => R (.ok (.ret (match f with | .ret v => v | _ => .none))) s')
      (fun e s' => wpAny (model prog w) (A.deeper env) (leaving env e) (fun _ s'' => R (.error e) s'') (fun e' s'' => R (.error e') s'') s') s) : codeH (model prog w) A (.func body env) R s := by
  refine codeH_tree ?_
  show wpH _ (A.deeper env) (do point; match ← (execs body env).onRaise (leaving env) with | .ret v => ret v | _ => ret .none) _ _ s
  refine wpH_step (wpAny_point (wpH_bind (wpH_onRaise (wpH_mono h (fun f s' h' => ?_) fun _ _ h' => h'))))
  cases f <;> exact wpH_any (wpAny_pure h')
theorem codeH_function {a : Addr} {args : Args} {o : Obj} {fd : FuncData} {body : List Stmt} (hroom : A.depth < recursionLimit) (ho : s.heap.get? a = some o) (hd' : o.data = .func fd) (hco : fd.scope.isCoroutine = false) (hgen : fd.scope.isGenerator = false) (hbody : fd.body = .stmts body) (hcd : s.heap.CodeRec fd.code fd.qualname)
    (h : wpH (model prog w) A.in1 (bindArgs fd args) (fun binds s₁ => wpAny (model prog w) A.in1 (newFunctionEnv fd.scope fd.globals fd.closure binds (fd.qualname ++ ".<locals>.") (some a) fd.code none fd.builtins)
        (fun env s₂ => s₂.heap.NoLimit ∧ codeH (model prog w) A (.func body env) R s₂) (fun e s' => R (.error e) s') s₁) (fun e s' => R (.error e) s') s) : codeH (model prog w) A (.call (.ref a) args) R s := by
  refine codeH_tree ?_
  show wpH _ A.in1 (callAny (.ref a) args) _ _ s
  simp only [callAny]
  refine wpH_step (wpAny_load ho ?_)
  obtain ⟨c, oc, vs, tq, hc, hoc, hdc, hq⟩ := hcd
  simp only [hd', callFunction, hco, hgen, hbody, hc]
  rw [hc] at h
  refine wpH_step (m := field (.ref c) 1) (wpAny_field hoc hdc hq (wpH_step (wpAny_pure ?_)))
  exact wpH_bind (wpH_mono h (fun binds s₁ h₁ => wpH_step (wpAny_mono h₁ (fun env s₂ h₂ => wpH_step (wpAny_enterFrame h₂.1 hroom
    (wpH_any (wpAny_pure (And.intro rfl h₂.2))))) fun _ _ h' => h')) fun _ _ h' => h')
theorem codeH_def {a : Addr} {o : Obj} {fd : FuncData} {body : List Stmt} {args : Args} {binds : List (Str × Value)}
    (hroom : A.depth < recursionLimit) (ho : s.heap.get? a = some o) (hdata : o.data = .func fd) (hlim : s.heap.NoLimit) (hcd : s.heap.CodeRec fd.code fd.qualname)
    (hbody : fd.body = .stmts body) (hbind : BindsTo s fd args binds) (hcell : ∀ x ∈ fd.scope.names, x.2 ≠ .cell) (hloc : ∀ x ∈ binds, fd.scope.names.lookup x.1 = some .local)
    (h : ∀ h₀, h₀.Ns s.heap.objs.size (fun x => binds.reverse.lookup x) → (∀ b o, s.heap.get? b = some o → h₀.get? b = some o) →
      wpH (model prog w) (A.deeper (callEnv fd s.heap.objs.size a)) (execs body (callEnv fd s.heap.objs.size a)) (fun f s' => R (.ok (.ret (match f with | .ret v => v | _ => .none))) s')
        (fun e s' => wpAny (model prog w) (A.deeper (callEnv fd s.heap.objs.size a)) (leaving (callEnv fd s.heap.objs.size a) e) (fun _ s'' => R (.error e) s'') (fun e' s'' => R (.error e') s'') s') { s with heap := h₀, toks := s.toks + binds.length })
    (hco : fd.scope.isCoroutine = false := by rfl) (hgen : fd.scope.isGenerator = false := by rfl) (hk : fd.scope.kind = .function := by rfl) : codeH (model prog w) A (.call (.ref a) args) R s := by
  refine codeH_function hroom ho hdata hco hgen hbody hcd (wpH_any (hbind _ _ _ _ ?_))
  refine wpAny_newFunctionEnv hcell hloc (fun h₀ hns₀ hsb₀ => ⟨hlim.fresh _ hsb₀, codeH_func (h h₀ hns₀ fun b o e => ?_)⟩) hk
  exact hsb₀.extBut b o (Nat.ne_of_lt (Heap.lt_size e)) (Heap.get?_push_of_some _ e)
theorem codeH_builtin {id : String} {args : Args} {b : Builtin} (hq : (Code.builtin id args).quiet = true) (hb : entryFor table id = some b)
    (h : wpAny (model prog w) A.in1 (checkBuiltinCall id args) (fun _ s₁ => wpH (model prog w) (A.under (.builtin id args)) (b args)
      (fun fin s' => match fin with | .done f => R (.ok f) s' | .again c' => c'.quiet = true ∧ codeH (model prog w) A c' R s') (fun e s' => R (.error e) s') s₁) (fun e s' => R (.error e) s') s) : codeH (model prog w) A (.call (.builtin id) args) R s := by
  refine codeH_tree ?_
  show wpH _ A.in1 (do checkBuiltinCall id args; again (.builtin id args)) _ _ s
  refine wpH_step (wpAny_mono h (fun _ s₁ h₁ => wpH_any (wpAny_pure (And.intro hq (codeH_tree ?_)))) fun _ _ h' => h')
  show wpH _ _ (match entryFor table id with | some b => b args | none => unsupported ((withoutEnding? id "#data").getD id)) _ _ s₁
  rw [hb]; exact h₁
end
section
variable {M : Model} {A : Around} {E : Value → Shared → Prop} {s : Shared} {env : Env}
theorem wpH_execs {st : Stmt} {rest : List Stmt} {Q : Flow → Shared → Prop} (h : wpH M A (exec st env) (fun f s' => match f with | .next => wpH M A (execs rest env) Q E s' | f => Q f s') E s) : wpH M A (execs (st :: rest) env) Q E s := fun Γ p hΓ hc => by
  rw [execs_cons, Sem.wp_bind']
  refine Sem.wp_mono M Γ _ (fun f p' s' h' => ?_) (fun _ _ _ h' => h') _ _ (h Γ p hΓ hc)
  cases f <;> first | exact h' Γ p' hΓ hc | exact h'
theorem wpH_Return {e : Expr} {pos : Pos} {Q : Flow → Shared → Prop} (h : wpH M A (eval e env) (fun v s' => Q (.ret v) s') E s) : wpH M A (exec (.Return (some e) pos) env) Q E s := by
  rw [arm_exec_Return]
  refine wpH_step (wpAny_standAt ?_)
  show wpH M A (eval e env >>= fun v => pure (Flow.ret v)) Q E s
  exact wpH_bind (wpH_mono h (fun v s' hv => wpH_any (wpAny_pure hv)) fun _ _ x => x)
theorem wpH_And {a b : Expr} {pos : Pos} {Q : Value → Shared → Prop} (h : wpH M A (eval a env) (fun v s₁ => v = .bool true ∧ wpH M A (eval b env) Q E s₁) E s) : wpH M A (eval (.BoolOp .And [a, b] pos) env) Q E s := by
  rw [arm_eval_BoolOp]
  show wpH M A (boolOp pos .And [eval a env, eval b env]) Q E s
  unfold boolOp
  refine wpH_bind (wpH_mono h (fun v s₁ hv => ?_) fun _ _ x => x)
  obtain ⟨rfl, hv⟩ := hv
  refine wpH_step (wpAny_standAt (wpH_step (wpAny_holding (wpAny_truthy_bool ?_))))
  exact hv
theorem wpH_Try {body orelse : List Stmt} {h₀ : ExceptHandler} {hs : List ExceptHandler} {pos : Pos} {Q : Flow → Shared → Prop}
    (h : wpH M A (execs body env) (fun f s₁ => match f with | .next => wpAny M A (execs orelse env) Q E s₁ | f => Q f s₁)
      (fun e s₁ => wpAny M A (noteFrame e env) (fun _ s₂ => wpAny M A (setFlight e none) (fun _ s₃ => wpAny M A (handleBy e env (h₀ :: hs)) Q E s₃) E s₂) E s₁) s) :
    wpH M A (exec (.Try body (h₀ :: hs) orelse [] pos) env) Q E s := by
  rw [arm_exec_Try]
  refine wpH_step (wpAny_standAt ?_)
  unfold tryStmt
  simp only [List.isEmpty_nil, if_true, List.isEmpty_cons, Bool.false_and, Bool.false_eq_true, if_false]
  refine wpH_bind (wpH_attempt (wpH_mono h (fun f s₁ h₁ => ?_) fun e s₁ h₁ => ?_))
  · cases f <;> first | exact wpH_any h₁ | exact wpH_any (wpAny_pure h₁)
  · exact wpH_any (wpAny_bind (wpAny_mono h₁ (fun _ _ h₂ => wpAny_bind h₂) fun _ _ x => x))
/-- a call of an own def, one by one written arguments -/
theorem wpH_callFn {id : Str} {np : Pos} {e : Expr} {pos : Pos} {Q : Value → Shared → Prop} (h : wpAny M A (eval (.Name id np) env) (fun f s₁ => wpAny M A (evalArgs f true (backTo pos (starEach [e] env)) (backToKw pos (keywordEach [] env))) (fun a s₂ => Looks M s₂.heap (keeperOf f) .frame ∧ wpH M A (call f a.pos a.kw) Q E s₂) E s₁) E s)
    (he : starEach [e] env = [(false, eval e env)] := by rfl) : wpH M A (eval (.Call (.Name id np) [e] [] pos) env) Q E s := by
  show wpH M A (eval (.Name id np) env >>= fun f => callWith pos f [] (backTo pos (starEach [e] env)) (backToKw pos (keywordEach [] env))) Q E s
  refine wpH_step (wpAny_mono h (fun f s₁ h₁ => ?_) fun _ _ x => x)
  unfold callWith
  refine wpH_step (wpAny_holding (wpAny_mono h₁ (fun a s₂ h₂ => ?_) fun _ _ x => x))
  refine wpH_step (wpAny_standAt (wpH_step (h₂.1.here ?_)))
  rw [he]
  refine wpH_bind (wpH_mono (Q := Q) (E := E) ?_ (fun r s₃ hr => wpH_step (wpAny_holding (wpAny_point (wpH_any (wpAny_pure hr))))) fun _ _ x => x)
  show wpH M A (callMarked plainCall f ([] ++ a.pos) a.kw) Q E s₂
  unfold callMarked
  rw [List.nil_append]
  exact fun Γ p hΓ hc => by
    have := h₂.2 Γ p hΓ hc
    first
      | exact this
      | (rw [Sem.wp_keep]; exact this)
end
theorem mark_no {M : Model} {A : Around} {E : Value → Shared → Prop} {s : Shared} {own : List String} {e : Value} {Q : Unit → Shared → Prop} (h : Q () s) : wpH M A (markTheRefusal own e) Q E s := fun Γ p hΓ hc => by
  unfold markTheRefusal
  rw [Sem.wp_bind']
  show Sem.wp M Γ (if pythonCodeMadeTheCall own (((Γ.code, p) :: Γ.below).map (·.1)) = true then _ else _) _ _ p s
  have hno : pythonCodeMadeTheCall own (((Γ.code, p) :: Γ.below).map (·.1)) = false := by
    cases hp : pythonCodeMadeTheCall own (((Γ.code, p) :: Γ.below).map (·.1)) with
    | false => rfl
    | true =>
      exfalso
      unfold pythonCodeMadeTheCall at hp
      simp only [Bool.and_eq_true, Bool.not_eq_true'] at hp
      have h1 := List.any_eq_false.mp hp.1.1
      obtain ⟨c, hm, hcc⟩ := List.any_eq_true.mp hc
      refine h1 c (List.mem_cons_of_mem _ hm) ?_
      unfold Code.isCaller at hcc
      split at hcc
      · rfl
      · cases hcc
  rw [hno]
  exact h
theorem wpH_refuse {α : Type} {M : Model} {A : Around} {E : Value → Shared → Prop} {s : Shared} {msg : String} {Q : α → Shared → Prop} (hh : A.handled = none) (hm : (msg : Str).length ≤ sizeLine)
    (h : ∀ h' tk e, Heap.NewExc s.heap h' e "TypeError" → E (.ref e) { s with heap := h', toks := tk }) : wpH M A (theBinderRefuses msg : Sem α) Q E s := by
  unfold theBinderRefuses
  refine wpH_step (wpAny_mkStr (wpH_step ?_) hm)
  unfold newExc newTuple
  refine wpAny_bind (wpAny_newObj_type ?_)
  refine wpAny_bind (m := firstArgMember _ _) (wpAny_of_eq (a := Value.none) (by simp only [firstArgMember, typeError_no_first]; rfl) ?_)
  rw [ownMembersOf_TypeError]
  refine wpAny_newObj_type ?_
  refine wpH_bind (mark_no ?_)
  refine wpH_any ?_
  unfold raiseNew
  refine wpAny_bind (wpAny_handled ?_)
  rw [hh]
  first
    | refine wpAny_throw ?_
    | refine wpAny_bind (wpAny_pure (wpAny_throw ?_))
  exact h _ _ _ ⟨fun b o hb => Heap.get?_push_of_some _ (Heap.get?_push_of_some _ hb), Heap.get?_none_of_le (by simp), _, .ref s.heap.objs.size, Heap.get?_push_size _ rfl, rfl, by simp⟩
end Mine
end
section
open PySem PySem.W PySem.Calls PyProof.Rows
set_option Elab.async false
set_option maxRecDepth 100000
set_option maxHeartbeats 4000000
set_option linter.unusedVariables false
namespace Mine
theorem codeH_mono {M : Model} {A : Around} {s : Shared} {c : Code} {R R' : Result → Shared → Prop} (h : codeH M A c R s) (hR : ∀ r s, R r s → R' r s) : codeH M A c R' s := fun Γ p hc hΓ hh => wpCode_mono hR (h Γ p hc hΓ hh)
section
variable {prog : Program} {w : World} {A : Around} {R : Result → Shared → Prop} {h : Heap} {g : Array GenState} {d : Drawn} {t : Nat} {os : OsState}
variable {nm q : Str} {C N : Addr} {bs bm : List Value} {hdct : Bool} {sn : List Str} {sub : List Value} {ab : Bool} {col : Option Bool} {dd : Option Addr} {k0 k1 k2 k3 k5 : Option Value}
theorem exc_makeH {rest : List Value} {kw : List (Str × Value)} {fI : Addr} (hC : h.get? C = some (excClassObj nm q C N bs bm hdct sn sub ab col dd k0 k1 k2 k3 k5 "Exception.__new__"))
    (hcB : (Value.ref C :: bm).contains (.type "Exception") = true) (hcA : (Value.ref C :: bm).contains (.type "AttributeError") = false) (hcN : (Value.ref C :: bm).contains (.type "NameError") = false)
    (call : Looks (model prog w) h (specialOf (.ref C) "__call__") (some (.builtin "type.__call__"))) (typ : Looks (model prog w) h (isInstance (.ref C) (.type "type")) true)
    (hi : Looks (model prog w) h (typeLookup (.ref C) "__init__") (some (.ref fI))) (hb : ∀ self, Looks (model prog w) h (bindSpecial (.ref fI) self) (.ref fI, [self])) (hrest : rest.length ≤ sizeLine)
    (hq : codeH (model prog w) (A.under (.builtin "type.__call__" ⟨.ref C :: rest, kw⟩)) (.call (.ref fI) ⟨.ref (h.objs.size + 1) :: rest, kw⟩) (fun r s' => ∃ e, r = .error e ∧ R (.error e) s') ⟨(h.push (tupObj rest)).push (excObj C none h.objs.size), g, d, t, os⟩) :
    codeH (model prog w) A (.call (.ref C) ⟨rest, kw⟩) R ⟨h, g, d, t, os⟩ := by
  refine codeH_tree (wpH_any ?_)
  show wpAny _ _ (callAny (.ref C) _) _ _ _
  refine nd_load hC ?_
  show wpAny _ _ (callAny.viaDunder (.ref C) _) _ _ _
  unfold callAny.viaDunder
  refine wpAny_bind (call.at ?_)
  dsimp only
  rw [tc_bind]
  refine wpAny_bind (wpAny_pure (wpAny_bind (wpAny_pure ?_)))
  refine wpAny_pure (a := Fin.again (.call (.builtin "type.__call__") ⟨.ref C :: rest, kw⟩)) (And.intro rfl ?_)
  refine codeH_builtin (Code.quiet_builtin _ (by decide +kernel)) entry_typeCall (check_slot tc_kind tc_split typ (tc_args _ _ _) ?_)
  unfold Builtin.«type.__call__»
  have hm : Looks (model prog w) h (mroOf (.ref C)) (.ref C :: bm) := ((Looks.ld (part := none) hC).andThen .now).andThen .now
  have made : Looks (model prog w) h (Bind.madeBy (.ref C)) (some "Exception.__new__") := by
    intro A Q E s k q
    obtain ⟨hh, g, d, t, os⟩ := s
    exact wpAny_madeBy_exc (k _ _ hC) q
  dsimp only
  have e1 : (Value.ref C == Value.type "type") = false := rfl
  simp only [e1, Bool.false_eq_true, if_false]
  refine wpH_step (hm.at ?_)
  simp only [List.isEmpty_cons, Bool.false_eq_true, if_false]
  refine wpH_step (made.at ?_)
  dsimp only
  refine wpH_step (wpAny_pure ?_)
  refine wpH_step (wpAny_holding (wpAny_call ?_))
  refine codeAny_call_builtin_code (Code.quiet_builtin _ PySem.F.excBase_Exception.quiet) (exc_check_new hC hcB ?_)
  refine exc_new hC hcB hcA hcN ?_ hrest
  have k : ∀ b o, h.get? b = some o → ((h.push (tupObj rest)).push (excObj C none h.objs.size)).get? b = some o := fun b o e => Heap.get?_push_of_some _ (Heap.get?_push_of_some _ e)
  have hx : ((h.push (tupObj rest)).push (excObj C none h.objs.size)).get? (h.objs.size + 1) = some (excObj C none h.objs.size) := by heap_get
  have t1 : Looks (model prog w) ((h.push (tupObj rest)).push (excObj C none h.objs.size)) (typeOf (.ref (h.objs.size + 1))) (.ref C) := (Looks.ld hx).andThen .now
  have s1 : Looks (model prog w) ((h.push (tupObj rest)).push (excObj C none h.objs.size)) (isSubtype (.ref C) (.ref C)) true := by
    intro A Q E s k' q
    obtain ⟨hh, g, d, t, os⟩ := s
    exact wpAny_isSubtype_exc (k' _ _ (k _ _ hC)) (by rw [show (Value.ref C :: bm).contains (.ref C) = true from by simp]; exact q)
  have i0 : Looks (model prog w) ((h.push (tupObj rest)).push (excObj C none h.objs.size)) (isInstance (.ref (h.objs.size + 1)) (.ref C)) true := by
    unfold isInstance
    exact t1.andThen s1
  have i1 := hi.keeps k
  have b1 := (hb (.ref (h.objs.size + 1))).keeps k
  dsimp only
  refine wpH_step (i0.at ?_)
  simp only [Bool.not_true, Bool.false_eq_true, if_false]
  unfold callSpecial? specialOf
  refine wpH_bind (wpH_holding (wpH_step (wpAny_bind (t1.at (i1.at ?_)))))
  dsimp only
  refine wpH_holding (wpH_step (b1.at ?_))
  dsimp only
  refine wpH_bind (wpH_call ?_)
  refine codeH_mono hq fun r s' z => ?_
  obtain ⟨e, rfl, z⟩ := z
  exact z
end
section
variable {prog : Program} {w : World} {A : Around} {s : Shared} {K : Frag} {R : Result → Shared → Prop} {name qual : Str} {params : Arguments} {body : List Stmt} {scope : Scope} {dV kV doc pm cdv ct oc : Value} {an od : Option Addr} {osl : Array (Option Value)} {f : Addr} {args : Args}
/-- a def whose arguments are refused -/
theorem refusedH (X : K.In s.heap) (ho : K.lookup f = some ⟨oc, od, .func (fnOf name qual params body scope dV kV doc pm an cdv ct), osl⟩) (hcd : codeIn K cdv qual = true) (hroom : A.depth < recursionLimit)
    (hb : ∀ (A : Around) (E : Value → Shared → Prop) (Q : List (Str × Value) → Shared → Prop), A.handled = none → (∀ h' tk e, Heap.NewExc s.heap h' e "TypeError" → E (.ref e) { s with heap := h', toks := tk }) → wpH (model prog w) A (bindArgs (fnOf name qual params body scope dV kV doc pm an cdv ct) args) Q E s) (hh : A.handled = none) (hco : scope.isCoroutine = false) (hgen : scope.isGenerator = false)
    (h : ∀ h' tk e, Heap.NewExc s.heap h' e "TypeError" → R (.error (.ref e)) { s with heap := h', toks := tk }) : codeH (model prog w) A (.call (.ref f) args) R s := by
  refine codeH_function hroom (X _ _ ho) rfl hco hgen rfl (codeRec_of X hcd) ?_
  exact hb _ _ _ hh h
theorem newExc_up {h h1 h' : Heap} {e : Addr} {T : String} (g : ∀ b o, h.get? b = some o → h1.get? b = some o) (x : Heap.NewExc h1 h' e T) : Heap.NewExc h h' e T := by
  refine ⟨fun b o q => x.keeps b o (g b o q), ?_, x.there⟩
  cases q : h.get? e with
  | none => rfl
  | some o =>
    have := g e o q
    rw [x.new] at this; cases this
theorem under_call {A : Around} {args : Args} (h : A.depth ≤ 900) : (A.under (.builtin "type.__call__" args)).depth < recursionLimit := by
  have hw : (Code.builtin "type.__call__" args).weight ≤ 10 := by
    unfold Code.weight
    have h1 : (Code.builtin "type.__call__" args).frames ≤ 5 := by
      unfold Code.frames
      split <;> first | exact Nat.zero_le _ | decide
    have h2 : (Code.builtin "type.__call__" args).isGuard = false := by show guardIds.contains "type.__call__" = false; decide +kernel
    have h3 : (Code.builtin "type.__call__" args).isCaller = false := rfl
    rw [h2, h3]
    split <;> simp <;> omega
  show A.depth + _ < 1000
  omega
end
end Mine
end
section
open PySem PySem.W PySem.Calls PyProof.Rows
set_option Elab.async false
set_option maxRecDepth 100000
set_option maxHeartbeats 4000000
set_option linter.unusedVariables false
namespace Mine
section
variable {M : Model} {A : Around} {E : Value → Shared → Prop} {s : Shared} {fd : FuncData} {x v u : Value} {Q : List (Str × Value) → Shared → Prop} {p1 p2 : Arg}
theorem bind_lacks (hp : fd.params = ⟨[], [p1, p2], none, [], [], none, []⟩) (h1 : p1.arg = "self") (h2 : p2.arg = "section") (hd : fd.defaults = .none) (hq : fd.qualname = "NoSectionError.__init__") (hh : A.handled = none)
    (h : ∀ h' tk e, Heap.NewExc s.heap h' e "TypeError" → E (.ref e) { s with heap := h', toks := tk }) : wpH M A (bindArgs fd ⟨[x], []⟩) Q E s := by
  have e0 : seqItems? Value.none = (do notAStandIn Value.none; pure none) := rfl
  unfold bindArgs
  simp only [hp, hd, hq, List.map_nil, List.map_cons, List.nil_append, h1, h2, List.forIn_nil, pure_bind, e0, bind_assoc]
  refine wpH_step (m := notAStandIn Value.none) (wpAny_pure ?_)
  rw [if_neg (by simp)]
  refine wpH_step (m := rule _) (wpAny_rule ?_)
  refine wpH_bind (wpH_refuse (hh := hh) ?_ h)
  rw [sizeLine_eq]; exact Nat.le_of_ble_eq_true (by kernel_rfl)
theorem bind_over (hp : fd.params = ⟨[], [p1, p2], none, [], [], none, []⟩) (h1 : p1.arg = "self") (h2 : p2.arg = "section") (hd : fd.defaults = .none) (hq : fd.qualname = "NoSectionError.__init__") (hh : A.handled = none)
    (h : ∀ h' tk e, Heap.NewExc s.heap h' e "TypeError" → E (.ref e) { s with heap := h', toks := tk }) : wpH M A (bindArgs fd ⟨[x, v, u], []⟩) Q E s := by
  have e0 : seqItems? Value.none = (do notAStandIn Value.none; pure none) := rfl
  unfold bindArgs
  simp only [hp, hd, hq, List.map_nil, List.map_cons, List.nil_append, h1, h2, List.forIn_nil, pure_bind, e0, bind_assoc]
  refine wpH_step (m := notAStandIn Value.none) (wpAny_pure ?_)
  rw [if_pos (by simp)]
  refine wpH_step (m := rule _) (wpAny_rule ?_)
  refine wpH_bind (wpH_refuse (hh := hh) ?_ h)
  rw [sizeLine_eq]; exact Nat.le_of_ble_eq_true (by kernel_rfl)
end
end Mine
end
section
open PySem PySem.W PySem.Spec PySem.Calls PyProof.Rows
set_option Elab.async false
set_option maxRecDepth 100000
set_option maxHeartbeats 4000000
set_option linter.unusedVariables false
namespace Mine
section
variable {M : Model} {A : Around} {E : Value → Shared → Prop} {s : Shared} {env : Env}
theorem wpH_Expr {e : Expr} {pos : Pos} {Q : Flow → Shared → Prop} (hi : interactive env = false) (hsw : swapsWith e none pos.line env = pure false) (h : wpH M A (eval e env) (fun _ _ => False) E s) : wpH M A (exec (.Expr e pos) env) Q E s := by
  rw [arm_exec_Expr, hi, hsw]
  refine wpH_step (wpAny_standAt ?_)
  rw [if_neg Bool.false_ne_true]
  refine wpH_step (wpAny_pure ?_)
  rw [if_neg Bool.false_ne_true]
  exact wpH_bind (wpH_mono h (fun _ _ x => x.elim) fun _ _ x => x)
/-- a call of lone starred arguments that raises -/
theorem wpH_star {K : Frag} {id : Str} {np pe pos : Pos} {e : Expr} {Q : Value → Shared → Prop}
    (h : wpAny M A (eval (.Name id np) env) (fun f s₁ => keepIn K f = true ∧ wpAny M A (eval e env) (fun v s₂ => StarOf M A E v (fun vs s₃ => K.In s₃.heap ∧ wpH M A (call f vs []) (fun _ _ => False) E s₃) s₂) E s₁) E s)
    (he : starEach [.Starred e pe] env = [(true, eval e env)] := by rfl) : wpH M A (eval (.Call (.Name id np) [.Starred e pe] [] pos) env) Q E s := by
  show wpH M A (eval (.Name id np) env >>= fun f => callWith pos f [] (backTo pos (starEach [.Starred e pe] env)) (backToKw pos (keywordEach [] env))) Q E s
  refine wpH_step (wpAny_mono h (fun f s₁ h₁ => ?_) fun _ _ x => x)
  obtain ⟨hk, h₁⟩ := h₁
  rw [he]
  show wpH M A (callWith pos f [] [(true, do let v ← eval e env; standAt pos; pure v)] []) Q E s₁
  unfold callWith
  refine wpH_step (wpAny_holding (wpAny_mono (ks_lone (Q := fun a s₂ => a.kw = [] ∧ K.In s₂.heap ∧ wpH M A (call f a.pos a.kw) (fun _ _ => False) E s₂) (wpAny_mono h₁ (fun v s₂ h₂ => ?_) fun _ _ x => x)) (fun a s₂ h₂ => ?_) fun _ _ x => x))
  · unfold StarOf at h₂ ⊢
    refine wpAny_mono h₂ (fun b s₃ h₃ => ⟨h₃.1, wpAny_mono h₃.2 (fun vs s₄ h₄ => ⟨rfl, h₄⟩) fun _ _ x => x⟩) fun _ _ x => x
  · obtain ⟨_, X, h₂⟩ := h₂
    obtain ⟨k, hk', L⟩ := keeps_K (M := M) hk _ X
    refine wpH_step (wpAny_standAt ?_)
    refine wpH_step (L.here ?_)
    have off : ∀ {t : Sem Value} {kt : Value → Sem Value}, wpH M A t (fun _ _ => False) E s₂ → wpH M A (t >>= kt) Q E s₂ := fun ht => wpH_bind (wpH_mono ht (fun _ _ x => x.elim) fun _ _ x => x)
    rw [List.nil_append]
    have marked (mk : Value) : wpH M A (callMarked mk f a.pos a.kw) (fun _ _ => False) E s₂ := fun Γ p hΓ hc => by
      have := h₂ Γ p hΓ hc
      unfold callMarked
      rw [Sem.wp_keep]; exact this
    have ope (l : List Value) : wpH M A (operate l (call f a.pos a.kw)) (fun _ _ => False) E s₂ := by
      unfold operate
      exact wpH_bind (wpH_holding (wpH_mono h₂ (fun _ _ x => x.elim) fun _ _ x => x))
    rcases hk' with rfl | rfl | rfl <;> dsimp only <;> first | exact off (marked _) | exact off (ope _)
end
section
variable {prog : Program} {w : World} {s : Shared} {K : Frag} {h₀ : Heap} {R : Result → Shared → Prop} {name qual cn : Str} {params : Arguments} {body : List Stmt} {scope cs : Scope} {dV kV doc pm cdv ct oc ccd : Value} {an od : Option Addr} {osl : Array (Option Value)} {f L a : Addr} {args : Args} {binds : List (Str × Value)} {m : Str → Option Value} {news : List (Addr × Obj)}
/-- enter a def that may catch, from the law's own frame -/
theorem enterH (F : Fr h₀ L s.heap m) (X₀ : K.In h₀) (N : News h₀ L s.heap news) (hlim : h₀.NoLimit)
    (ho : K.lookup f = some ⟨oc, od, .func (fnOf name qual params body scope dV kV doc pm an cdv ct), osl⟩) (hcd : codeIn K cdv qual = true) (hroom : (callerA.deeper (envOf cn cs L a ccd)).depth < recursionLimit)
    (hbind : BindsTo s (fnOf name qual params body scope dV kV doc pm an cdv ct) args binds) (hloc : ∀ y ∈ binds, scope.names.lookup y.1 = some .local)
    (hco : scope.isCoroutine = false) (hgen : scope.isGenerator = false) (hk : scope.kind = .function) (hcell : ∀ x ∈ scope.names, x.2 ≠ .cell) (hck : cs.kind = .function)
    (h : ∀ oL L' h₁ tk, TI.Caller h₀ L m oL → TI.Frs [envOf cn cs L a ccd] [(L, oL)] → Fr h₀ L' h₁ (fun y => binds.reverse.lookup y) → News h₀ L' h₁ (news ++ [(L, oL)]) →
      wpH (model prog w) ((callerA.deeper (envOf cn cs L a ccd)).deeper (envOf qual scope L' f cdv)) (execs body (envOf qual scope L' f cdv)) (fun fl s' => R (.ok (.ret (match fl with | .ret v => v | _ => .none))) s')
        (fun e s' => wpAny (model prog w) ((callerA.deeper (envOf cn cs L a ccd)).deeper (envOf qual scope L' f cdv)) (leaving (envOf qual scope L' f cdv) e) (fun _ s'' => R (.error e) s'') (fun e' s'' => R (.error e') s'') s')
        { s with heap := h₁, toks := tk }) : codeH (model prog w) (callerA.deeper (envOf cn cs L a ccd)) (.call (.ref f) args) R s := by
  have X := X₀.keeps F.keep
  obtain ⟨oL, es, ep, hL, hLd, hLk, hLf⟩ := F.ns
  have hn : h₀.get? L = none := Heap.get?_none_of_le F.above
  have hLt := Heap.lt_size hL
  have hkind : (envOf cn cs L a ccd).scope.kind ≠ .module := by
    show cs.kind ≠ .module
    rw [hck]; decide
  refine codeH_def hroom (X _ _ ho) rfl (hlim.keeps F.keep) (codeRec_of X hcd) rfl hbind hcell hloc (fun h₁ hns hk₁ => ?_) hco hgen hk
  refine h oL s.heap.objs.size h₁ _ ⟨fun h' sl e => ⟨_, es, ep, e, hLd, hLk, hLf⟩, ⟨es, ep, hLd⟩, F.above⟩ ⟨hkind, rfl, ⟨es, ep, hLd⟩, trivial⟩
    ⟨hns, fun b o e => hk₁ b o (F.keep b o e), Nat.le_trans F.above (Nat.le_of_lt hLt)⟩ (fun p hp => ?_)
  rcases List.mem_append.mp hp with hp | hp
  · obtain ⟨h1, h2, h3⟩ := N p hp
    exact ⟨hk₁ _ _ h1, Nat.ne_of_lt (Heap.lt_size h1), h3⟩
  · rcases List.mem_cons.mp hp with rfl | hp
    · exact ⟨hk₁ _ _ hL, Nat.ne_of_lt hLt, hn⟩
    · exact nomatch hp
end
end Mine
end
section
open PySem PySem.W PySem.Spec PySem.Calls PyProof.Rows
set_option Elab.async false
set_option maxRecDepth 100000
set_option maxHeartbeats 4000000
set_option linter.unusedVariables false
namespace Mine
section
variable {M : Model} {A : Around} {E : Value → Shared → Prop} {s : Shared} {env : Env}
/-- a call of an own def, by one plain argument -/
theorem wpH_callK {K : Frag} {id : Str} {np pos : Pos} {e : Expr} {Q : Value → Shared → Prop}
    (h : wpAny M A (eval (.Name id np) env) (fun f s₁ => keepIn K f = true ∧ wpAny M A (spliced (backTo pos (starEach [e] env))) (fun vs s₂ => K.In s₂.heap ∧ wpH M A (call f vs []) Q E s₂) E s₁) E s)
    (he : starEach [e] env = [(false, eval e env)] := by rfl) : wpH M A (eval (.Call (.Name id np) [e] [] pos) env) Q E s := by
  show wpH M A (eval (.Name id np) env >>= fun f => callWith pos f [] (backTo pos (starEach [e] env)) (backToKw pos (keywordEach [] env))) Q E s
  refine wpH_step (wpAny_mono h (fun f s₁ h₁ => ?_) fun _ _ x => x)
  obtain ⟨hk, h₁⟩ := h₁
  rw [he] at h₁ ⊢
  show wpH M A (callWith pos f [] (backTo pos [(false, eval e env)]) []) Q E s₁
  unfold callWith
  refine wpH_step (wpAny_holding (wpAny_mono (evalArgs_plain (Q := fun a s₂ => a.kw = [] ∧ K.In s₂.heap ∧ wpH M A (call f a.pos a.kw) Q E s₂) (wpAny_mono h₁ (fun v s₂ h₂ => ⟨rfl, h₂⟩) fun _ _ x => x)) (fun a s₂ h₂ => ?_) fun _ _ x => x))
  obtain ⟨_, X, h₂⟩ := h₂
  obtain ⟨k, hk', L⟩ := keeps_K (M := M) hk _ X
  refine wpH_step (wpAny_standAt ?_)
  refine wpH_step (L.here ?_)
  have off : ∀ {t : Sem Value}, wpH M A t Q E s₂ → wpH M A (t >>= fun r => holding [r] point >>= fun _ => pure r) Q E s₂ := fun ht => wpH_bind (wpH_mono ht (fun r s₃ hr => wpH_step (wpAny_holding (wpAny_point (wpH_any (wpAny_pure hr))))) fun _ _ x => x)
  rw [List.nil_append]
  have marked (mk : Value) : wpH M A (callMarked mk f a.pos a.kw) Q E s₂ := fun Γ p hΓ hc => by
    have := h₂ Γ p hΓ hc
    unfold callMarked
    rw [Sem.wp_keep]; exact this
  rcases hk' with rfl | rfl | rfl <;> first | exact off (marked _) | exact off h₂
end
theorem enter_callH {M : Model} {s : Shared} {f : Value} {pos : List Value} {kw : List (Str × Value)} {c : ClaimW} {cl : Str → Option Addr} {mean : ExcName → Option Value} {args : List WData} {s₁ : Shared}
    (h : codeH M callerA (.call f ⟨pos, kw⟩) (GoodWG c cl mean args s₁) s) : wpC M (PySem.call f pos kw) (fun v s' => GoodWG c cl mean args s₁ (.ok (.ret v)) s') (fun e s' => GoodWG c cl mean args s₁ (.error e) s') s :=
  wpC_call (codeH_mono h fun res s' g => by rcases g.1 with ⟨v, _, _, rfl, _⟩ | ⟨e, _, _, rfl, _⟩ <;> exact g)
section
variable {prog : Program} {w : World} {A : Around} {R : Result → Shared → Prop} {s : Shared} {name : Str} {params : Arguments} {body : List Stmt} {scope : Scope} {dV kV pm cd doc : Value} {a : Addr} {o : Obj} {args : Args} {binds : List (Str × Value)}
theorem call_fullH (hroom : A.depth < recursionLimit) (ho : s.heap.get? a = some o) (hdata : o.data = .func { docDef name params body scope pm cd doc with defaults := dV, kwdefaults := kV }) (hlim : s.heap.NoLimit) (hcd : s.heap.CodeRec cd name)
    (hbind : BindsTo s { docDef name params body scope pm cd doc with defaults := dV, kwdefaults := kV } args binds)
    (hloc : ∀ x ∈ binds, scope.names.lookup x.1 = some .local)
    (h : ∀ h₁, Fr s.heap s.heap.objs.size h₁ (fun x => binds.reverse.lookup x) →
      wpH (model prog w) (A.deeper (envOf name scope s.heap.objs.size a cd)) (execs body (envOf name scope s.heap.objs.size a cd))
        (fun f s' => R (.ok (.ret (match f with | .ret v => v | _ => .none))) s')
        (fun e s' => wpAny (model prog w) (A.deeper (envOf name scope s.heap.objs.size a cd)) (leaving (envOf name scope s.heap.objs.size a cd) e)
          (fun _ s'' => R (.error e) s'') (fun e' s'' => R (.error e') s'') s')
        { s with heap := h₁, toks := s.toks + binds.length })
    (hco : scope.isCoroutine = false := by rfl) (hgen : scope.isGenerator = false := by rfl) (hk : scope.kind = .function := by rfl)
    (hcell : ∀ x ∈ scope.names, x.2 ≠ .cell := by decide) :
    codeH (model prog w) A (.call (.ref a) args) R s :=
  codeH_def hroom ho hdata hlim hcd rfl hbind hcell hloc (fun h₁ hns hkeep => h h₁ ⟨hns, hkeep, Nat.le_refl _⟩) hco hgen hk
end
end Mine
end
section
open PySem PySem.W PySem.W.X PySem.W.ZRun PyProof.Rows
set_option Elab.async false
set_option maxRecDepth 100000
set_option maxHeartbeats 0
local macro_rules | `(tactic| k_head) => `(tactic| z_head)
namespace Mine
open_top hz for PySem.Challenge.rw_dm0028_02
end Mine
end
section
open PySem
set_option maxRecDepth 100000
namespace Mine
theorem sx0 : Str.ofString "\x00" = ⟨#[0]⟩ := rfl
theorem sx1 : Str.ofString "\t" = ⟨#[9]⟩ := rfl
theorem sx2 : Str.ofString "\n" = ⟨#[10]⟩ := rfl
theorem sx3 : Str.ofString "\"" = ⟨#[34]⟩ := rfl
theorem sx4 : Str.ofString "'" = ⟨#[39]⟩ := rfl
theorem sx5 : Str.ofString "(" = ⟨#[40]⟩ := rfl
theorem sx6 : Str.ofString ")" = ⟨#[41]⟩ := rfl
theorem sx7 : Str.ofString ", " = ⟨#[44, 32]⟩ := rfl
theorem sx8 : Str.ofString ",)" = ⟨#[44, 41]⟩ := rfl
theorem sx9 : Str.ofString "-" = ⟨#[45]⟩ := rfl
theorem sx10 : Str.ofString ".0" = ⟨#[46, 48]⟩ := rfl
theorem sx11 : Str.ofString "0123456789" = ⟨#[48, 49, 50, 51, 52, 53, 54, 55, 56, 57]⟩ := rfl
theorem sx12 : Str.ofString ": " = ⟨#[58, 32]⟩ := rfl
theorem sx13 : Str.ofString "Error" = ⟨#[69, 114, 114, 111, 114]⟩ := rfl
theorem sx14 : Str.ofString "Error.__init__" = ⟨#[69, 114, 114, 111, 114, 46, 95, 95, 105, 110, 105, 116, 95, 95]⟩ := rfl
theorem sx15 : Str.ofString "Error.__repr__" = ⟨#[69, 114, 114, 111, 114, 46, 95, 95, 114, 101, 112, 114, 95, 95]⟩ := rfl
theorem sx16 : Str.ofString "Exception" = ⟨#[69, 120, 99, 101, 112, 116, 105, 111, 110]⟩ := rfl
theorem sx17 : Str.ofString "False" = ⟨#[70, 97, 108, 115, 101]⟩ := rfl
theorem sx18 : Str.ofString "No section: " = ⟨#[78, 111, 32, 115, 101, 99, 116, 105, 111, 110, 58, 32]⟩ := rfl
theorem sx19 : Str.ofString "No section: %r" = ⟨#[78, 111, 32, 115, 101, 99, 116, 105, 111, 110, 58, 32, 37, 114]⟩ := rfl
theorem sx20 : Str.ofString "NoSectionError" = ⟨#[78, 111, 83, 101, 99, 116, 105, 111, 110, 69, 114, 114, 111, 114]⟩ := rfl
theorem sx21 : Str.ofString "NoSectionError.__init__" = ⟨#[78, 111, 83, 101, 99, 116, 105, 111, 110, 69, 114, 114, 111, 114, 46, 95, 95, 105, 110, 105, 116, 95, 95]⟩ := rfl
theorem sx22 : Str.ofString "None" = ⟨#[78, 111, 110, 101]⟩ := rfl
theorem sx23 : Str.ofString "True" = ⟨#[84, 114, 117, 101]⟩ := rfl
theorem sx24 : Str.ofString "TypeError" = ⟨#[84, 121, 112, 101, 69, 114, 114, 111, 114]⟩ := rfl
theorem sx25 : Str.ofString "[" = ⟨#[91]⟩ := rfl
theorem sx26 : Str.ofString "\\" = ⟨#[92]⟩ := rfl
theorem sx27 : Str.ofString "\\n" = ⟨#[92, 110]⟩ := rfl
theorem sx28 : Str.ofString "\\t" = ⟨#[92, 116]⟩ := rfl
theorem sx29 : Str.ofString "\\x00" = ⟨#[92, 120, 48, 48]⟩ := rfl
theorem sx30 : Str.ofString "]" = ⟨#[93]⟩ := rfl
theorem sx31 : Str.ofString "__init__" = ⟨#[95, 95, 105, 110, 105, 116, 95, 95]⟩ := rfl
theorem sx32 : Str.ofString "__name__" = ⟨#[95, 95, 110, 97, 109, 101, 95, 95]⟩ := rfl
theorem sx33 : Str.ofString "__repr__" = ⟨#[95, 95, 114, 101, 112, 114, 95, 95]⟩ := rfl
theorem sx34 : Str.ofString "__str__" = ⟨#[95, 95, 115, 116, 114, 95, 95]⟩ := rfl
theorem sx35 : Str.ofString "_law_figures" = ⟨#[95, 108, 97, 119, 95, 102, 105, 103, 117, 114, 101, 115]⟩ := rfl
theorem sx36 : Str.ofString "_law_quoted" = ⟨#[95, 108, 97, 119, 95, 113, 117, 111, 116, 101, 100]⟩ := rfl
theorem sx37 : Str.ofString "_law_refused" = ⟨#[95, 108, 97, 119, 95, 114, 101, 102, 117, 115, 101, 100]⟩ := rfl
theorem sx38 : Str.ofString "_law_stack" = ⟨#[95, 108, 97, 119, 95, 115, 116, 97, 99, 107]⟩ := rfl
theorem sx39 : Str.ofString "_law_text" = ⟨#[95, 108, 97, 119, 95, 116, 101, 120, 116]⟩ := rfl
theorem sx40 : Str.ofString "_law_written" = ⟨#[95, 108, 97, 119, 95, 119, 114, 105, 116, 116, 101, 110]⟩ := rfl
theorem sx41 : Str.ofString "a'\"\\\n" = ⟨#[97, 39, 34, 92, 10]⟩ := rfl
theorem sx42 : Str.ofString "a'\"\\\n%r{}\t\x00 " = ⟨#[97, 39, 34, 92, 10, 37, 114, 123, 125, 9, 0, 32]⟩ := rfl
theorem sx43 : Str.ofString "abs" = ⟨#[97, 98, 115]⟩ := rfl
theorem sx44 : Str.ofString "append" = ⟨#[97, 112, 112, 101, 110, 100]⟩ := rfl
theorem sx45 : Str.ofString "args" = ⟨#[97, 114, 103, 115]⟩ := rfl
theorem sx46 : Str.ofString "cpy313.configparser" = ⟨#[99, 112, 121, 51, 49, 51, 46, 99, 111, 110, 102, 105, 103, 112, 97, 114, 115, 101, 114]⟩ := rfl
theorem sx47 : Str.ofString "dict" = ⟨#[100, 105, 99, 116]⟩ := rfl
theorem sx48 : Str.ofString "due" = ⟨#[100, 117, 101]⟩ := rfl
theorem sx49 : Str.ofString "err" = ⟨#[101, 114, 114]⟩ := rfl
theorem sx50 : Str.ofString "fast" = ⟨#[102, 97, 115, 116]⟩ := rfl
theorem sx51 : Str.ofString "int" = ⟨#[105, 110, 116]⟩ := rfl
theorem sx52 : Str.ofString "isinstance" = ⟨#[105, 115, 105, 110, 115, 116, 97, 110, 99, 101]⟩ := rfl
theorem sx53 : Str.ofString "join" = ⟨#[106, 111, 105, 110]⟩ := rfl
theorem sx54 : Str.ofString "key" = ⟨#[107, 101, 121]⟩ := rfl
theorem sx55 : Str.ofString "kind" = ⟨#[107, 105, 110, 100]⟩ := rfl
theorem sx56 : Str.ofString "law" = ⟨#[108, 97, 119]⟩ := rfl
theorem sx57 : Str.ofString "law_dm0028_02" = ⟨#[108, 97, 119, 95, 100, 109, 48, 48, 50, 56, 95, 48, 50]⟩ := rfl
theorem sx58 : Str.ofString "left" = ⟨#[108, 101, 102, 116]⟩ := rfl
theorem sx59 : Str.ofString "len" = ⟨#[108, 101, 110]⟩ := rfl
theorem sx60 : Str.ofString "list" = ⟨#[108, 105, 115, 116]⟩ := rfl
theorem sx61 : Str.ofString "mark" = ⟨#[109, 97, 114, 107]⟩ := rfl
theorem sx62 : Str.ofString "message" = ⟨#[109, 101, 115, 115, 97, 103, 101]⟩ := rfl
theorem sx63 : Str.ofString "min" = ⟨#[109, 105, 110]⟩ := rfl
theorem sx64 : Str.ofString "msg" = ⟨#[109, 115, 103]⟩ := rfl
theorem sx65 : Str.ofString "named" = ⟨#[110, 97, 109, 101, 100]⟩ := rfl
theorem sx66 : Str.ofString "number" = ⟨#[110, 117, 109, 98, 101, 114]⟩ := rfl
theorem sx67 : Str.ofString "one" = ⟨#[111, 110, 101]⟩ := rfl
theorem sx68 : Str.ofString "out" = ⟨#[111, 117, 116]⟩ := rfl
theorem sx69 : Str.ofString "own" = ⟨#[111, 119, 110]⟩ := rfl
theorem sx70 : Str.ofString "parts" = ⟨#[112, 97, 114, 116, 115]⟩ := rfl
theorem sx71 : Str.ofString "place" = ⟨#[112, 108, 97, 99, 101]⟩ := rfl
theorem sx72 : Str.ofString "range" = ⟨#[114, 97, 110, 103, 101]⟩ := rfl
theorem sx73 : Str.ofString "repr" = ⟨#[114, 101, 112, 114]⟩ := rfl
theorem sx74 : Str.ofString "rest" = ⟨#[114, 101, 115, 116]⟩ := rfl
theorem sx75 : Str.ofString "s" = ⟨#[115]⟩ := rfl
theorem sx76 : Str.ofString "script" = ⟨#[115, 99, 114, 105, 112, 116]⟩ := rfl
theorem sx77 : Str.ofString "section" = ⟨#[115, 101, 99, 116, 105, 111, 110]⟩ := rfl
theorem sx78 : Str.ofString "self" = ⟨#[115, 101, 108, 102]⟩ := rfl
theorem sx79 : Str.ofString "sign" = ⟨#[115, 105, 103, 110]⟩ := rfl
theorem sx80 : Str.ofString "signs" = ⟨#[115, 105, 103, 110, 115]⟩ := rfl
theorem sx81 : Str.ofString "size" = ⟨#[115, 105, 122, 101]⟩ := rfl
theorem sx82 : Str.ofString "stack" = ⟨#[115, 116, 97, 99, 107]⟩ := rfl
theorem sx83 : Str.ofString "str" = ⟨#[115, 116, 114]⟩ := rfl
theorem sx84 : Str.ofString "taken" = ⟨#[116, 97, 107, 101, 110]⟩ := rfl
theorem sx85 : Str.ofString "text" = ⟨#[116, 101, 120, 116]⟩ := rfl
theorem sx86 : Str.ofString "tuple" = ⟨#[116, 117, 112, 108, 101]⟩ := rfl
theorem sx87 : Str.ofString "value" = ⟨#[118, 97, 108, 117, 101]⟩ := rfl
theorem sx88 : Str.ofString "values" = ⟨#[118, 97, 108, 117, 101, 115]⟩ := rfl
theorem sx89 : Str.ofString "x" = ⟨#[120]⟩ := rfl
theorem sx90 : Str.ofString "{" = ⟨#[123]⟩ := rfl
theorem sx91 : Str.ofString "{}\t\x00 " = ⟨#[123, 125, 9, 0, 32]⟩ := rfl
theorem sx92 : Str.ofString "}" = ⟨#[125]⟩ := rfl
end Mine
end
section
open PySem PySem.W PySem.Calls PyProof.Rows
set_option Elab.async false
set_option maxRecDepth 100000
set_option maxHeartbeats 4000000
set_option linter.unusedVariables false
namespace Mine
abbrev P02 : Program := PySem.Challenge.rw_dm0028_02.prog
noncomputable abbrev KP2 (w : World) : Frag := hz.heap_129 w.params
def pairD : List PyData → List (PyData × PyData)
  | [] => []
  | [a] => [(.int 0, a)]
  | a :: b :: _ => [(.int 0, a), (.int 1, b)]
/-- a heap holds the law's value v, which is d -/
inductive V2 (w : World) (h : Heap) : Value → PyData → Prop
  | none : V2 w h .none .none
  | bool (b : Bool) : V2 w h (.bool b) (.bool b)
  | int (n : Int) (t : Tok) : n.natAbs < 10 ^ 6 → V2 w h (.int n t) (.int n)
  | str (x : Str) (t : Tok) : Sg2 x → x.length ≤ 4 → V2 w h (.str x t) (.str x)
  | list {a : Addr} {vs : List Value} {n : Nat} {ds : List PyData} : h.get? a = some (listOf vs.toArray n) → a ≠ 1 → vs.length = ds.length → vs.length ≤ 2 → (∀ (i : Nat) v d, vs[i]? = some v → ds[i]? = some d → V2 w h v d) → V2 w h (.ref a) (.list ds)
  | tuple {a : Addr} {vs : List Value} {ds : List PyData} : h.get? a = some (tupObj vs) → vs.length = ds.length → vs.length ≤ 50 → (∀ (i : Nat) v d, vs[i]? = some v → ds[i]? = some d → V2 w h v d) → V2 w h (.ref a) (.tuple ds)
  | dict0 {a : Addr} {ep : Nat} : h.DictAt (intKind P02 w) a [] ep → a ≠ 1 → V2 w h (.ref a) (.dict [])
  | dict1 {a : Addr} {ep : Nat} {v : Value} {d : PyData} : h.DictAt (intKind P02 w) a [((0 : Int), v)] ep → a ≠ 1 → V2 w h v d → V2 w h (.ref a) (.dict [(.int 0, d)])
  | dict2 {a : Addr} {ep : Nat} {v u : Value} {d e : PyData} : h.DictAt (intKind P02 w) a [((0 : Int), v), ((1 : Int), u)] ep → a ≠ 1 → V2 w h v d → V2 w h u e → V2 w h (.ref a) (.dict [(.int 0, d), (.int 1, e)])
section
variable {w : World} {h h' : Heap} {v : Value} {d : PyData}
theorem V2.mono (x : V2 w h v d) (g : Grow h h') : V2 w h' v d := by
  induction x with
  | none => exact .none
  | bool b => exact .bool b
  | int n t a => exact .int n t a
  | str x t a b => exact .str x t a b
  | list a b c e _ ih => exact .list (g _ _ a) b c e ih
  | tuple a c e _ ih => exact .tuple (g _ _ a) c e ih
  | dict0 a b => exact .dict0 (a.keep g) b
  | dict1 a b _ ih => exact .dict1 (a.keep g) b ih
  | dict2 a b _ _ ih1 ih2 => exact .dict2 (a.keep g) b ih1 ih2
def RD (h : Heap) (v : Value) (d : PyData) : Prop := ∃ as, Reads h v d as ∧ (1 : Addr) ∉ as
theorem readsAll_of : ∀ {vs : List Value} {ds : List PyData}, vs.length = ds.length → (∀ (i : Nat) v d, vs[i]? = some v → ds[i]? = some d → RD h v d) → ∃ as, ReadsAll h vs ds as ∧ (1 : Addr) ∉ as
  | [], [], _, _ => ⟨[], .nil, fun h => nomatch h⟩
  | v :: vs, d :: ds, e, k => by
    obtain ⟨as, r, n⟩ := k 0 v d rfl rfl
    obtain ⟨bs, rs, m⟩ := readsAll_of (vs := vs) (ds := ds) (by simpa using e) fun i v d a b => k (i + 1) v d (by simpa using a) (by simpa using b)
    refine ⟨as ++ bs, .cons r rs, fun h => ?_⟩
    rcases List.mem_append.mp h with h | h
    · exact n h
    · exact m h
theorem dict_reads {a : Addr} {ep : Nat} {kvs : List (Int × Value)} {ds : List (PyData × PyData)} (x : h.DictAt (intKind P02 w) a kvs ep) (ha : a ≠ 1) (hk : ds.map (·.1) = kvs.map (fun p => PyData.int p.1)) (hv : ∃ bs, ReadsAll h (kvs.map (·.2)) (ds.map (·.2)) bs ∧ (1 : Addr) ∉ bs) : RD h (.ref a) (.dict ds) := by
  obtain ⟨o, es, ho, hc, hd, hks, hp, hn⟩ := x
  obtain ⟨bs, hb, hb1⟩ := hv
  have keys : ∀ {l : List DictEntry} {kvs : List (Int × Value)}, Pairs (intKind P02 w) l kvs → ReadsAll h (l.map (·.key)) (kvs.map (fun p => PyData.int p.1)) [] ∧ l.map (·.val) = kvs.map (·.2) := by
    intro l kvs hp
    induction hp with
    | nil => exact ⟨.nil, rfl⟩
    | cons h1 h2 _ ih =>
      obtain ⟨t, ht⟩ := Value.isInt_shape h1
      refine ⟨?_, by simp [ih.2, h2]⟩
      rw [List.map_cons, List.map_cons, ht]
      exact ReadsAll.cons (as := []) (Reads.int _ t) ih.1
  obtain ⟨k1, k2⟩ := keys hp
  refine ⟨a :: [] ++ bs, .dict ho hc.1 hd (by rw [hk]; exact k1) (by rw [k2]; exact hb), fun hm => ?_⟩
  simp only [List.cons_append, List.nil_append, List.mem_cons] at hm
  rcases hm with e | hm
  · exact ha e.symm
  · exact hb1 hm
theorem V2.reads (x : V2 w h v d) : RD h v d := by
  induction x with
  | none => exact ⟨[], .none, fun h => nomatch h⟩
  | bool b => exact ⟨[], .bool b, fun h => nomatch h⟩
  | int n t a => exact ⟨[], .int n t, fun h => nomatch h⟩
  | str x t a b => exact ⟨[], .str x t, fun h => nomatch h⟩
  | list a b c e _ ih =>
    obtain ⟨as, r, n⟩ := readsAll_of c ih
    refine ⟨_ :: as, .list a rfl rfl (by simpa using r), fun hm => ?_⟩
    rcases List.mem_cons.mp hm with e | hm
    · exact b e.symm
    · exact n hm
  | tuple a c e _ ih =>
    obtain ⟨as, r, n⟩ := readsAll_of c ih
    exact ⟨as, .tuple a rfl rfl (by simpa using r), n⟩
  | dict0 a b => exact dict_reads a b rfl ⟨[], .nil, fun h => nomatch h⟩
  | dict1 a b _ ih =>
    obtain ⟨as, r, n⟩ := ih
    exact dict_reads a b rfl ⟨as ++ [], .cons r .nil, by simpa using n⟩
  | dict2 a b _ _ ih1 ih2 =>
    obtain ⟨as, r, n⟩ := ih1
    obtain ⟨bs, s, m⟩ := ih2
    exact dict_reads a b rfl ⟨as ++ (bs ++ []), .cons r (.cons s .nil), by simp [n, m]⟩
theorem log6 {n : Int} (h : n.natAbs < 10 ^ 6) : n.natAbs.log2 < 1920 := log2_ok (Nat.lt_trans h (by decide))
theorem all_show : ∀ {ds : List PyData}, (∀ d ∈ ds, d.showable = true) → PyData.showableAll ds = true
  | [], _ => rfl
  | d :: ds, h => by
    simp only [PyData.showableAll, Bool.and_eq_true]
    exact ⟨h d (.head _), all_show fun e he => h e (.tail _ he)⟩
theorem mem_pair {vs : List Value} {ds : List PyData} (e : vs.length = ds.length) {d : PyData} (hd : d ∈ ds) : ∃ (i : Nat) (v : Value), vs[i]? = some v ∧ ds[i]? = some d := by
  obtain ⟨i, hi, rfl⟩ := List.getElem_of_mem hd
  exact ⟨i, vs[i]'(by omega), List.getElem?_eq_getElem _, List.getElem?_eq_getElem _⟩
theorem V2.show (x : V2 w h v d) : d.showable = true := by
  induction x with
  | none => rfl
  | bool b => rfl
  | int n t a => simp only [PyData.showable, decide_eq_true_eq]; exact log6 a
  | str x t a b => rfl
  | list a b c e _ ih =>
    simp only [PyData.showable]
    exact all_show fun d hd => let ⟨i, v, h1, h2⟩ := mem_pair c hd; ih i v d h1 h2
  | tuple a c e _ ih =>
    simp only [PyData.showable]
    exact all_show fun d hd => let ⟨i, v, h1, h2⟩ := mem_pair c hd; ih i v d h1 h2
  | dict0 a b => rfl
  | dict1 a b _ ih => simp [PyData.showable, PyData.showableKv, ih]
  | dict2 a b _ _ ih1 ih2 => simp [PyData.showable, PyData.showableKv, ih1, ih2]; decide
theorem V2.rep {prog : Program} (x : V2 w h v d) (hl : d.shown.length ≤ 100000) (hd : d.depth ≤ 100) : Rep prog w h v d.shown := by
  obtain ⟨as, r, n⟩ := x.reads
  exact rep_reads r x.show n hl hd
end
end Mine
end
section
open PySem PySem.W PySem.Calls PyProof.Rows
set_option Elab.async false
set_option maxRecDepth 100000
set_option maxHeartbeats 4000000
set_option linter.unusedVariables false
namespace Mine
/-- _law_written writes v as t, wherever it is called -/
def WrT (w : World) (hb : Heap) (x y : Nat) (v : Value) (t : Str) : Prop := ∀ (A : Around) (s : Shared) (Q E : Value → Shared → Prop), A.handled = none → A.guards = some [] → A.depth ≤ x → A.units ≤ y → Grow hb s.heap →
  (∀ h' u tk, Grow s.heap h' → Q (.str t u) { s with heap := h', toks := tk }) → wpAny (model P02 w) A (call (.ref 87) [v]) Q E s
theorem WrT.mono {w : World} {h h' : Heap} {x y : Nat} {v : Value} {t : Str} (c : WrT w h x y v t) (g : Grow h h') : WrT w h' x y v t := fun A s Q E a b e f g' k => c A s Q E a b e f (g.trans g') k
theorem room_ {x y : Nat} (h : x ≤ 650) : (AD x y).depth < recursionLimit := Nat.lt_of_le_of_lt h (Nat.le_of_ble_eq_true rfl)
section
variable {prog : Program} {w : World} {A : Around} {E : Value → Shared → Prop} {s : Shared} {env : Env} {h₀ : Heap} {L : Addr} {m : Str → Option Value} {news : List (Addr × Obj)} {Q : Value → Shared → Prop}
theorem wr_use {x y : Nat} {v : Value} {t : Str} (c : WrT w h₀ x y v t) (F : Fr h₀ L s.heap m) (N : News h₀ L s.heap news) (a1 : A.handled = none) (a2 : A.guards = some []) (a3 : A.depth ≤ x) (a4 : A.units ≤ y)
    (q : ∀ h' u tk, Fr h₀ L h' m → News h₀ L h' news → Q (.str t u) { s with heap := h', toks := tk }) : wpAny (model P02 w) A (call (.ref 87) [v]) Q E s :=
  c A s Q E a1 a2 a3 a4 F.keep fun h' u tk g => q h' u tk (fr_grow F g) (news_grow N g)
/-- a contract that gives a text back -/
theorem txt_use {f : Value} {vs : List Value} {t : Str} {d u : Nat} (c : ∀ Q E, (∀ h' tk u, Grow s.heap h' → Q (.str t u) { s with heap := h', toks := tk }) → wpAny (model prog w) (AD d u) (call f vs) Q E s)
    (F : Fr h₀ L s.heap m) (N : News h₀ L s.heap news) (h1 : A.handled = none) (h2 : A.guards = some []) (h3 : A.depth ≤ d) (h4 : A.units ≤ u)
    (h : ∀ h' tk u, Fr h₀ L h' m → News h₀ L h' news → Q (.str t u) { s with heap := h', toks := tk }) : wpAny (model prog w) A (call f vs) Q E s :=
  weaken h1 h2 h3 h4 (c Q E fun h' tk u g => h h' tk u (fr_grow F g) (news_grow N g))
/-- a comprehension over a list whose length is not known -/
theorem comp_rec2 {elt : Expr} {x : Str} {scope : Scope} {cl : List (Str × Addr)} {S : List (Addr × Obj) → Prop} {P : Nat → Value → Prop} {Fin : List Value → List (Addr × Obj) → Prop} {n : Nat} {news : List (Addr × Obj)} (J : Nat → List Value → Prop)
    (h0 : J 0 []) (hS : S news)
    (turn : ∀ i v ys I oI C oC D m₂ h tk (E' : Value → Shared → Prop), i < n → J i ys → P i v → LCg.NsObj oC m₂ → m₂ x = some v → Fr h₀ L h m → News h₀ L h ((I, oI) :: (C, oC) :: (D, LCg.lst ys) :: news) → LCg.Off3 I C D news → ((@Ne Nat I C) ∧ (@Ne Nat I D) ∧ (@Ne Nat C D)) →
      ∀ Q' : Value → Shared → Prop, (∀ y h' tk', J (i + 1) (ys ++ [y]) → Fr h₀ L h' m → News h₀ L h' ((I, oI) :: (C, oC) :: (D, LCg.lst ys) :: news) → Q' y { s with heap := h', toks := tk' }) →
      wpAny (model prog w) A (eval elt (compEnvC scope cl C env)) Q' E' { s with heap := h, toks := tk })
    (fin : ∀ ys, J n ys → Fin ys news) : LCg.CompRest prog w A h₀ L m env elt x scope cl s S P Fin n 0 [] news := by
  have key : ∀ (j i : Nat) (ys : List Value), i + j = n → J i ys → LCg.CompRest prog w A h₀ L m env elt x scope cl s S P Fin j i ys news := by
    intro j
    induction j with
    | zero =>
      intro i ys e hj
      obtain rfl : i = n := by omega
      exact LCg.CompRest.zero (fin ys hj)
    | succ j ih =>
      intro i ys e hj
      refine LCg.CompRest.succ ?_
      intro v I oI C oC D m₂ h tk E' hv hC hx F N off ne
      refine turn i v ys I oI C oC D m₂ h tk E' (by omega) hj hv hC hx F N off ne _ fun y h' tk' hj' F' N' => ?_
      exact ⟨h', tk', news, rfl, F', N', off, hS, ih (i + 1) (ys ++ [y]) (by omega) hj'⟩
  exact key n 0 [] (by omega) h0
end
/-- the texts of the values -/
def TxtsAre (ys : List Value) (ts : List Str) : Prop := StrsAre ys ts
theorem strs_snoc2 : ∀ {vs : List Value} {xs : List Str} {y : Str} {t : Tok}, StrsAre vs xs → StrsAre (vs ++ [.str y t]) (xs ++ [y])
  | _, _, y, t, .nil => .cons y t .nil
  | _, _, y, t, .cons z u h => .cons z u (strs_snoc2 h)
theorem all_at : ∀ {ds : List PyData} {i : Nat} {d : PyData}, ds[i]? = some d → (PyData.shownAll ds)[i]? = some d.shown
  | _ :: _, 0, _, e => by cases e; rfl
  | _ :: ds, i + 1, d, e => by
    have := all_at (ds := ds) (i := i) (d := d) (by simpa using e)
    simpa [PyData.shownAll] using this
theorem all_len : ∀ {ds : List PyData}, (PyData.shownAll ds).length = ds.length
  | [] => rfl
  | _ :: ds => by simp [PyData.shownAll, all_len (ds := ds)]
theorem sum_small {k : Nat} : ∀ {ts : List Str}, (∀ t ∈ ts, t.length ≤ k) → (ts.map (·.length)).sum ≤ ts.length * k
  | [], _ => by simp
  | t :: ts, h => by
    have h1 := h t (.head _)
    have h2 := sum_small (ts := ts) fun u hu => h u (.tail _ hu)
    rw [List.map_cons, List.sum_cons, List.length_cons, Nat.succ_mul]
    omega
theorem txt_join (sep : Str) (ts : List Str) : Txt.join sep ts = Str.join sep ts := by
  unfold Txt.join
  exact StrLaws.glued_eq_join _ _
theorem list_text (ts : List Str) : (Str.ofString "[" ++ Txt.join (Str.ofString ", ") ts) ++ Str.ofString "]" = listText ts := by
  rw [listText_eq_join, txt_join]
theorem tup_text (ts : List Str) (h : ts.length ≠ 1) : (Str.ofString "(" ++ Txt.join (Str.ofString ", ") ts) ++ Str.ofString ")" = tupleText ts := by
  rw [txt_join]; unfold tupleText
  rw [if_neg (by simpa using h)]
theorem tup_text1 (ts : List Str) (h : ts.length = 1) : (Str.ofString "(" ++ Txt.join (Str.ofString ", ") ts) ++ Str.ofString ",)" = tupleText ts := by
  rw [txt_join]; unfold tupleText
  rw [if_pos (by simpa using h)]
end Mine
namespace Mine
theorem piled_small {k : Nat} : ∀ {ts : List Str}, (∀ t ∈ ts, t.length ≤ k) → piled ts ≤ ts.length * (k + 2)
  | [], _ => by simp [piled]
  | t :: ts, h => by
    have h1 := h t (.head _)
    have h2 := piled_small (ts := ts) fun u hu => h u (.tail _ hu)
    rw [piled_cons, List.length_cons, Nat.succ_mul]
    omega
theorem join_small {ts : List Str} (h : ∀ t ∈ ts, t.length ≤ 5000) (hl : ts.length ≤ 50) : (Txt.join (Str.ofString ", ") ts).length ≤ 300000 := by
  rw [txt_join]
  by_cases e : ts = []
  · subst e; decide
  · have h1 := join_length_add ts e
    have h2 := piled_small h
    have h3 : ts.length * (5000 + 2) ≤ 50 * 5002 := Nat.mul_le_mul_right _ hl
    have h4 : (Str.join (Str.ofString ", ") ts).length = (Str.join ", " ts).length := rfl
    omega
end Mine
namespace Mine
theorem dict_text (ts : List Str) : (Str.ofString "{" ++ Txt.join (Str.ofString ", ") ts) ++ Str.ofString "}" = dictText ts := by
  rw [txt_join]; rfl
theorem fig_short {k : Int} (h : k.natAbs < 10 ^ 6) : (Str.ofString (toString k)).length ≤ 100 := by
  have h1 := digits10_le (k := 41) (by decide) (Nat.lt_trans h (by decide : 10 ^ 6 < 10 ^ 41))
  have h2 : (figN k.natAbs).length ≤ 60 := by
    show ((Nat.toDigits 10 k.natAbs).map Char.toNat).toArray.size ≤ 60
    simp; omega
  by_cases hk : k < 0
  · rw [← fig_neg hk, PySem.Str.length_append]
    have : (Str.ofString "-").length = 1 := rfl
    omega
  · rw [← fig_pos hk]; omega
end Mine
end
section
open PySem PySem.W PySem.W.X PySem.Calls PyProof.Rows PySem.W.ZRun
set_option maxRecDepth 100000
set_option maxHeartbeats 8000000
set_option linter.unusedVariables false
set_option linter.unusedSimpArgs false
namespace Mine
local macro_rules | `(tactic| walk_at $s:str) => `(tactic| k_extra $s)
local macro_rules | `(tactic| k_ne) => `(tactic| (refine neN ?_; (try dsimp only); k_extra "ne"))
section
theorem layIni021 : True := by
  k_with_none
  k_with "ne" => (with_reducible (first | exact ns1 | exact ns2 | exact qlt (by assumption) | exact qgt (by assumption) | exact qne (by assumption) | exact qen (by assumption) | exact rlt (by assumption) | exact rgt (by assumption) | exact rne (by assumption) | exact ren (by assumption) | exact qlt (And.right (by assumption)) | exact qgt (And.right (by assumption)) | exact qne (And.right (by assumption)) | exact qen (And.right (by assumption)) | exact rlt (And.right (by assumption)) | exact rgt (And.right (by assumption)) | exact rne (And.right (by assumption)) | exact ren (And.right (by assumption)) | exact qlt (And.right (And.right (by assumption))) | exact qgt (And.right (And.right (by assumption))) | exact qne (And.right (And.right (by assumption))) | exact qen (And.right (And.right (by assumption))) | exact rlt (And.right (And.right (by assumption))) | exact rgt (And.right (And.right (by assumption))) | exact rne (And.right (And.right (by assumption))) | exact ren (And.right (And.right (by assumption))) | exact qlt (And.right (And.right (And.right (by assumption)))) | exact qgt (And.right (And.right (And.right (by assumption)))) | exact qne (And.right (And.right (And.right (by assumption)))) | exact qen (And.right (And.right (And.right (by assumption)))) | exact rlt (And.right (And.right (And.right (by assumption)))) | exact rgt (And.right (And.right (And.right (by assumption)))) | exact rne (And.right (And.right (And.right (by assumption)))) | exact ren (And.right (And.right (And.right (by assumption)))) | exact qlt (And.right (And.right (And.right (And.right (by assumption))))) | exact qgt (And.right (And.right (And.right (And.right (by assumption))))) | exact qne (And.right (And.right (And.right (And.right (by assumption))))) | exact qen (And.right (And.right (And.right (And.right (by assumption))))) | exact rlt (And.right (And.right (And.right (And.right (by assumption))))) | exact rgt (And.right (And.right (And.right (And.right (by assumption))))) | exact rne (And.right (And.right (And.right (And.right (by assumption))))) | exact ren (And.right (And.right (And.right (And.right (by assumption))))) | exact qlt (And.right (And.right (And.right (And.right (And.right (by assumption)))))) | exact qgt (And.right (And.right (And.right (And.right (And.right (by assumption)))))) | exact qne (And.right (And.right (And.right (And.right (And.right (by assumption)))))) | exact qen (And.right (And.right (And.right (And.right (And.right (by assumption)))))) | exact rlt (And.right (And.right (And.right (And.right (And.right (by assumption)))))) | exact rgt (And.right (And.right (And.right (And.right (And.right (by assumption)))))) | exact rne (And.right (And.right (And.right (And.right (And.right (by assumption)))))) | exact ren (And.right (And.right (And.right (And.right (And.right (by assumption)))))) | exact qlt (And.right (And.right (And.right (And.right (And.right (And.right (by assumption))))))) | exact qgt (And.right (And.right (And.right (And.right (And.right (And.right (by assumption))))))) | exact qne (And.right (And.right (And.right (And.right (And.right (And.right (by assumption))))))) | exact qen (And.right (And.right (And.right (And.right (And.right (And.right (by assumption))))))) | exact rlt (And.right (And.right (And.right (And.right (And.right (And.right (by assumption))))))) | exact rgt (And.right (And.right (And.right (And.right (And.right (And.right (by assumption))))))) | exact rne (And.right (And.right (And.right (And.right (And.right (And.right (by assumption))))))) | exact ren (And.right (And.right (And.right (And.right (And.right (And.right (by assumption))))))) | exact qlt (And.right (And.right (And.right (And.right (And.right (And.right (And.right (by assumption)))))))) | exact qgt (And.right (And.right (And.right (And.right (And.right (And.right (And.right (by assumption)))))))) | exact qne (And.right (And.right (And.right (And.right (And.right (And.right (And.right (by assumption)))))))) | exact qen (And.right (And.right (And.right (And.right (And.right (And.right (And.right (by assumption)))))))) | exact rlt (And.right (And.right (And.right (And.right (And.right (And.right (And.right (by assumption)))))))) | exact rgt (And.right (And.right (And.right (And.right (And.right (And.right (And.right (by assumption)))))))) | exact rne (And.right (And.right (And.right (And.right (And.right (And.right (And.right (by assumption)))))))) | exact ren (And.right (And.right (And.right (And.right (And.right (And.right (And.right (by assumption)))))))) | exact qlt (And.right (And.right (And.right (And.right (And.right (And.right (And.right (And.right (by assumption))))))))) | exact qgt (And.right (And.right (And.right (And.right (And.right (And.right (And.right (And.right (by assumption))))))))) | exact qne (And.right (And.right (And.right (And.right (And.right (And.right (And.right (And.right (by assumption))))))))) | exact qen (And.right (And.right (And.right (And.right (And.right (And.right (And.right (And.right (by assumption))))))))) | exact rlt (And.right (And.right (And.right (And.right (And.right (And.right (And.right (And.right (by assumption))))))))) | exact rgt (And.right (And.right (And.right (And.right (And.right (And.right (And.right (And.right (by assumption))))))))) | exact rne (And.right (And.right (And.right (And.right (And.right (And.right (And.right (And.right (by assumption))))))))) | exact ren (And.right (And.right (And.right (And.right (And.right (And.right (And.right (And.right (by assumption))))))))) | exact qlt (And.right (And.right (And.right (And.right (And.right (And.right (And.right (And.right (And.right (by assumption)))))))))) | exact qgt (And.right (And.right (And.right (And.right (And.right (And.right (And.right (And.right (And.right (by assumption)))))))))) | exact qne (And.right (And.right (And.right (And.right (And.right (And.right (And.right (And.right (And.right (by assumption)))))))))) | exact qen (And.right (And.right (And.right (And.right (And.right (And.right (And.right (And.right (And.right (by assumption)))))))))) | exact rlt (And.right (And.right (And.right (And.right (And.right (And.right (And.right (And.right (And.right (by assumption)))))))))) | exact rgt (And.right (And.right (And.right (And.right (And.right (And.right (And.right (And.right (And.right (by assumption)))))))))) | exact rne (And.right (And.right (And.right (And.right (And.right (And.right (And.right (And.right (And.right (by assumption)))))))))) | exact ren (And.right (And.right (And.right (And.right (And.right (And.right (And.right (And.right (And.right (by assumption)))))))))) | exact qlt (And.right (And.right (And.right (And.right (And.right (And.right (And.right (And.right (And.right (And.right (by assumption))))))))))) | exact qgt (And.right (And.right (And.right (And.right (And.right (And.right (And.right (And.right (And.right (And.right (by assumption))))))))))) | exact qne (And.right (And.right (And.right (And.right (And.right (And.right (And.right (And.right (And.right (And.right (by assumption))))))))))) | exact qen (And.right (And.right (And.right (And.right (And.right (And.right (And.right (And.right (And.right (And.right (by assumption))))))))))) | exact rlt (And.right (And.right (And.right (And.right (And.right (And.right (And.right (And.right (And.right (And.right (by assumption))))))))))) | exact rgt (And.right (And.right (And.right (And.right (And.right (And.right (And.right (And.right (And.right (And.right (by assumption))))))))))) | exact rne (And.right (And.right (And.right (And.right (And.right (And.right (And.right (And.right (And.right (And.right (by assumption))))))))))) | exact ren (And.right (And.right (And.right (And.right (And.right (And.right (And.right (And.right (And.right (And.right (by assumption))))))))))) | exact qlt (And.right (And.right (And.right (And.right (And.right (And.right (And.right (And.right (And.right (And.right (And.right (by assumption)))))))))))) | exact qgt (And.right (And.right (And.right (And.right (And.right (And.right (And.right (And.right (And.right (And.right (And.right (by assumption)))))))))))) | exact qne (And.right (And.right (And.right (And.right (And.right (And.right (And.right (And.right (And.right (And.right (And.right (by assumption)))))))))))) | exact qen (And.right (And.right (And.right (And.right (And.right (And.right (And.right (And.right (And.right (And.right (And.right (by assumption)))))))))))) | exact rlt (And.right (And.right (And.right (And.right (And.right (And.right (And.right (And.right (And.right (And.right (And.right (by assumption)))))))))))) | exact rgt (And.right (And.right (And.right (And.right (And.right (And.right (And.right (And.right (And.right (And.right (And.right (by assumption)))))))))))) | exact rne (And.right (And.right (And.right (And.right (And.right (And.right (And.right (And.right (And.right (And.right (And.right (by assumption)))))))))))) | exact ren (And.right (And.right (And.right (And.right (And.right (And.right (And.right (And.right (And.right (And.right (And.right (by assumption)))))))))))) | exact qlt (And.right (And.right (And.right (And.right (And.right (And.right (And.right (And.right (And.right (And.right (And.right (And.right (by assumption))))))))))))) | exact qgt (And.right (And.right (And.right (And.right (And.right (And.right (And.right (And.right (And.right (And.right (And.right (And.right (by assumption))))))))))))) | exact qne (And.right (And.right (And.right (And.right (And.right (And.right (And.right (And.right (And.right (And.right (And.right (And.right (by assumption))))))))))))) | exact qen (And.right (And.right (And.right (And.right (And.right (And.right (And.right (And.right (And.right (And.right (And.right (And.right (by assumption))))))))))))) | exact rlt (And.right (And.right (And.right (And.right (And.right (And.right (And.right (And.right (And.right (And.right (And.right (And.right (by assumption))))))))))))) | exact rgt (And.right (And.right (And.right (And.right (And.right (And.right (And.right (And.right (And.right (And.right (And.right (And.right (by assumption))))))))))))) | exact rne (And.right (And.right (And.right (And.right (And.right (And.right (And.right (And.right (And.right (And.right (And.right (And.right (by assumption))))))))))))) | exact ren (And.right (And.right (And.right (And.right (And.right (And.right (And.right (And.right (And.right (And.right (And.right (And.right (by assumption))))))))))))) | exact qlt (And.right (And.right (And.right (And.right (And.right (And.right (And.right (And.right (And.right (And.right (And.right (And.right (And.right (by assumption)))))))))))))) | exact qgt (And.right (And.right (And.right (And.right (And.right (And.right (And.right (And.right (And.right (And.right (And.right (And.right (And.right (by assumption)))))))))))))) | exact qne (And.right (And.right (And.right (And.right (And.right (And.right (And.right (And.right (And.right (And.right (And.right (And.right (And.right (by assumption)))))))))))))) | exact qen (And.right (And.right (And.right (And.right (And.right (And.right (And.right (And.right (And.right (And.right (And.right (And.right (And.right (by assumption)))))))))))))) | exact rlt (And.right (And.right (And.right (And.right (And.right (And.right (And.right (And.right (And.right (And.right (And.right (And.right (And.right (by assumption)))))))))))))) | exact rgt (And.right (And.right (And.right (And.right (And.right (And.right (And.right (And.right (And.right (And.right (And.right (And.right (And.right (by assumption)))))))))))))) | exact rne (And.right (And.right (And.right (And.right (And.right (And.right (And.right (And.right (And.right (And.right (And.right (And.right (And.right (by assumption)))))))))))))) | exact ren (And.right (And.right (And.right (And.right (And.right (And.right (And.right (And.right (And.right (And.right (And.right (And.right (And.right (by assumption)))))))))))))) | exact qlt (And.right (And.right (And.right (And.right (And.right (And.right (And.right (And.right (And.right (And.right (And.right (And.right (And.right (And.right (by assumption))))))))))))))) | exact qgt (And.right (And.right (And.right (And.right (And.right (And.right (And.right (And.right (And.right (And.right (And.right (And.right (And.right (And.right (by assumption))))))))))))))) | exact qne (And.right (And.right (And.right (And.right (And.right (And.right (And.right (And.right (And.right (And.right (And.right (And.right (And.right (And.right (by assumption))))))))))))))) | exact qen (And.right (And.right (And.right (And.right (And.right (And.right (And.right (And.right (And.right (And.right (And.right (And.right (And.right (And.right (by assumption))))))))))))))) | exact rlt (And.right (And.right (And.right (And.right (And.right (And.right (And.right (And.right (And.right (And.right (And.right (And.right (And.right (And.right (by assumption))))))))))))))) | exact rgt (And.right (And.right (And.right (And.right (And.right (And.right (And.right (And.right (And.right (And.right (And.right (And.right (And.right (And.right (by assumption))))))))))))))) | exact rne (And.right (And.right (And.right (And.right (And.right (And.right (And.right (And.right (And.right (And.right (And.right (And.right (And.right (And.right (by assumption))))))))))))))) | exact ren (And.right (And.right (And.right (And.right (And.right (And.right (And.right (And.right (And.right (And.right (And.right (And.right (And.right (And.right (by assumption))))))))))))))) | exact qlt (And.right (And.right (And.right (And.right (And.right (And.right (And.right (And.right (And.right (And.right (And.right (And.right (And.right (And.right (And.right (by assumption)))))))))))))))) | exact qgt (And.right (And.right (And.right (And.right (And.right (And.right (And.right (And.right (And.right (And.right (And.right (And.right (And.right (And.right (And.right (by assumption)))))))))))))))) | exact qne (And.right (And.right (And.right (And.right (And.right (And.right (And.right (And.right (And.right (And.right (And.right (And.right (And.right (And.right (And.right (by assumption)))))))))))))))) | exact qen (And.right (And.right (And.right (And.right (And.right (And.right (And.right (And.right (And.right (And.right (And.right (And.right (And.right (And.right (And.right (by assumption)))))))))))))))) | exact rlt (And.right (And.right (And.right (And.right (And.right (And.right (And.right (And.right (And.right (And.right (And.right (And.right (And.right (And.right (And.right (by assumption)))))))))))))))) | exact rgt (And.right (And.right (And.right (And.right (And.right (And.right (And.right (And.right (And.right (And.right (And.right (And.right (And.right (And.right (And.right (by assumption)))))))))))))))) | exact rne (And.right (And.right (And.right (And.right (And.right (And.right (And.right (And.right (And.right (And.right (And.right (And.right (And.right (And.right (And.right (by assumption)))))))))))))))) | exact ren (And.right (And.right (And.right (And.right (And.right (And.right (And.right (And.right (And.right (And.right (And.right (And.right (And.right (And.right (And.right (by assumption))))))))))))))))))
  trivial
theorem layIni022 : True := by
  k_with "mine texts" => ((try dsimp only [← sx0, ← sx1, ← sx2, ← sx3, ← sx4, ← sx5, ← sx6, ← sx7, ← sx8, ← sx9, ← sx10, ← sx11, ← sx12, ← sx13, ← sx14, ← sx15, ← sx16, ← sx17, ← sx18, ← sx19, ← sx20, ← sx21, ← sx22, ← sx23, ← sx24, ← sx25, ← sx26, ← sx27, ← sx28, ← sx29, ← sx30, ← sx31, ← sx32, ← sx33, ← sx34, ← sx35, ← sx36, ← sx37, ← sx38, ← sx39, ← sx40, ← sx41, ← sx42, ← sx43, ← sx44, ← sx45, ← sx46, ← sx47, ← sx48, ← sx49, ← sx50, ← sx51, ← sx52, ← sx53, ← sx54, ← sx55, ← sx56, ← sx57, ← sx58, ← sx59, ← sx60, ← sx61, ← sx62, ← sx63, ← sx64, ← sx65, ← sx66, ← sx67, ← sx68, ← sx69, ← sx70, ← sx71, ← sx72, ← sx73, ← sx74, ← sx75, ← sx76, ← sx77, ← sx78, ← sx79, ← sx80, ← sx81, ← sx82, ← sx83, ← sx84, ← sx85, ← sx86, ← sx87, ← sx88, ← sx89, ← sx90, ← sx91, ← sx92]))
  k_with "mine drop" => (first | (refine' Drop.head ?a; (case a => k_all)) | (refine' Drop.tail ?a ?b; (case a => k_ne); (case b => walk_at "mine drop")))
  k_with "setAttr ref" => ((k_here; k_dflt (first | (refine' exc_set0 ?k1 ?k2 ?k3 ?k4 ?k5 ?k6 ?k7 ?k8 ?k9 ?_; (case k1 => k_asm); (case k2 => k_asm); (case k3 => k_asm); (case k4 => k_mem); (case k5 => k_is); (case k6 => kernel_rfl); (case k7 => k_is); (case k8 => k_is); (case k9 => intro zqd; k_upd); k_whole; intro zqdp zqhp zqFp zqNp zql1; (try k_lt zql1)) | (refine' exc_set_args ?k1 ?k2 ?k3 ?k4 ?k5 ?k6 ?k7 ?k8 ?k9 ?k10 ?_; (case k1 => k_asm); (case k2 => k_asm); (case k3 => k_asm); (case k4 => first | (refine' InstAt.of_exc ?N ?h1 ?h2; (case N => k_asm); (case h1 => k_mem); (case h2 => k_mem)) | (refine' InstAt.of_exc0 ?N ?h1; (case N => k_asm); (case h1 => k_mem))); (case k5 => exact isTup_of (by k_asm) (by k_mem)); (case k6 => k_is); (case k7 => kernel_rfl); (case k8 => k_is); (case k9 => k_is); (case k10 => k_upd); k_whole; intro zqhp zqFp zqNp) | (refine' exc_set ?k1 ?k2 ?k3 ?k4 ?k5 ?k6 ?k7 ?k8 ?k9 ?k10 ?k11 ?k12 ?_; (case k1 => k_asm); (case k2 => k_asm); (case k3 => k_asm); (case k4 => first | (refine' InstAt.of_exc ?N ?h1 ?h2; (case N => k_asm); (case h1 => k_mem); (case h2 => k_mem)) | (refine' InstAt.of_exc0 ?N ?h1; (case N => k_asm); (case h1 => k_mem))); (case k5 => k_is); (case k6 => kernel_rfl); (case k7 => k_is); (case k8 => k_is); (case k9 => k_get); (case k10 => k_put); (case k11 => k_upd); (case k12 => exact Nat.le_of_ble_eq_true rfl); k_whole; intro zqhp zqFp zqNp))))
  k_with "call builtin:Exception.__init__" => ((k_here; k_dflt (refine' exc_init_call ?k1 ?k2 ?k3 ?k4 ?k5 ?k6 ?_; (case k1 => k_asm); (case k2 => k_asm); (case k3 => k_asm); (case k4 => first | (refine' InstAt.of_exc ?N ?h1 ?h2; (case N => k_asm); (case h1 => k_mem); (case h2 => k_mem)) | (refine' InstAt.of_exc0 ?N ?h1; (case N => k_asm); (case h1 => k_mem))); (case k5 => k_is); (case k6 => intro zqt; k_upd); k_whole; intro zqtp zqhp zqFp zqNp zql1; (try k_lt zql1))))
  k_with "call builtin:repr" => ((k_here; k_dflt (refine' repr_use ?k1 ?k2 ?k3 ?k4 ?k5 ?k6 ?k7 ?_; (case k1 => assumption); (case k2 => k_asm); (case k3 => k_asm); (case k4 => exact rfl); (case k5 => exact rfl); (case k6 => exact Nat.le_of_ble_eq_true rfl); (case k7 => exact Nat.le_of_ble_eq_true rfl); k_whole; intro zqhp zqup zqtkp zqFp zqNp)))
  k_with "BackIn" => ((k_dflt (refine' back_ ?k1 ?k2 ?k3 ?_; (case k1 => k_asm); (case k2 => k_asm); (case k3 => walk_at "mine drop"); k_whole; intro zqFp zqNp; (try dsimp only))))
  k_with "call ref" => ((k_here; k_dflt (refine wpAny_call ?_; refine' enter_in ?k1 ?k2 ?k3 ?k4 ?k5 ?k6 ?k7 ?k8 ?kB ?c2 ?c3 ?c4 ?c5 ?_; (case k1 => k_asm); (case k2 => k_asm); (case k3 => k_asm); (case k4 => exact Top.nolimit (by assumption)); (case k5 => k_is); (case k6 => k_is); (case k7 => exact Nat.le_of_ble_eq_true rfl); (case k8 => first | ((with_reducible show BindsTo _ _ ⟨[_], []⟩ _); first | exact BindsTo.of_eq (binds := [(_, _)]) rfl | exact binds_K (binds := [(_, _)]) (by k_in) rfl (by k_is) rfl rfl rfl) | ((with_reducible show BindsTo _ _ ⟨[_, _], []⟩ _); first | exact BindsTo.of_eq (binds := [(_, _), (_, _)]) rfl | exact binds_K (binds := [(_, _), (_, _)]) (by k_in) rfl (by k_is) rfl rfl rfl) | ((with_reducible show BindsTo _ _ ⟨[_, _, _], []⟩ _); first | exact BindsTo.of_eq (binds := [(_, _), (_, _), (_, _)]) rfl | exact binds_K (binds := [(_, _), (_, _), (_, _)]) (by k_in) rfl (by k_is) rfl rfl rfl) | ((with_reducible show BindsTo _ _ ⟨[_, _, _, _], []⟩ _); first | exact BindsTo.of_eq (binds := [(_, _), (_, _), (_, _), (_, _)]) rfl | exact binds_K (binds := [(_, _), (_, _), (_, _), (_, _)]) (by k_in) rfl (by k_is) rfl rfl rfl) | ((with_reducible show BindsTo _ _ ⟨[_, _, _, _, _], []⟩ _); first | exact BindsTo.of_eq (binds := [(_, _), (_, _), (_, _), (_, _), (_, _)]) rfl | exact binds_K (binds := [(_, _), (_, _), (_, _), (_, _), (_, _)]) (by k_in) rfl (by k_is) rfl rfl rfl)); (case c5 => decide); (case kB => exact locs rfl); (case c2 => exact rfl); (case c3 => exact rfl); (case c4 => exact rfl); k_whole; intro zqoLp zqLp zqhp zqtkp zqFp zqNp zql1 zqn1; (try k_lt zql1); (try (replace zqn1 := allNe_of zqn1; simp only [AllNe, and_true] at zqn1)); (try dsimp only); walk_at "mine texts")))
  k_with "call builtin:str.join" => ((k_here; (with_reducible show wpAny _ _ (call (Value.builtin "str.join") [Value.str _ _, Value.ref _]) _ _ _); k_dflt (refine join_listC (by is_list) (by repeat constructor) (by decide) (by (simp only [List.map_cons, List.map_nil, List.sum_cons, List.sum_nil, List.length_cons, List.length_nil]; omega)) ?_); intro zqtp zqkp))
  k_with "getMethod type:Exception" => ((k_here; refine' method_type ?F ?X ?m (by decide +kernel) ?e ?h ?_; (case F => k_asm); (case X => k_asm); (case m => exact meta_Exception); (case e => k_dflt k_is); (case h => k_handed)))
  k_with "compareOp IsNot" => ((k_here; k_dflt (refine isNot_none (by assumption) ?_)))
  k_with "call builtin:str.format" => ((k_here; k_dflt (refine' line_use ?k1 ?k2 ?k3 ?k4 ?k5 ?k6 ?k7 ?_; (case k1 => assumption); (case k2 => k_asm); (case k3 => k_asm); (case k4 => exact rfl); (case k5 => exact rfl); (case k6 => exact Nat.le_of_ble_eq_true rfl); (case k7 => exact Nat.le_of_ble_eq_true rfl); k_whole; intro zqhp zqup zqtkp zqFp zqNp)))
  k_with "call builtin:str.format" => ((k_here; (with_reducible show wpAny _ _ (call (Value.builtin "str.format") [Value.str _ _, _, _, _, _]) _ _ _); k_dflt (refine' fmt_use ?k1 ?k2 ?k3 ?k4 ?k5 ?_; (case k1 => k_asm); (case k2 => k_asm); (case k3 => exact ⟨rfl, rfl, Nat.le_of_ble_eq_true rfl, Nat.le_of_ble_eq_true rfl⟩); (case k4 => exact args_5 _ _ _ _ _); (case k5 => walk_at "mine fmt")); k_whole; intro zqhp zqup zqtkp zqFp zqNp))
  k_with "pyReprObj" => ((k_here; k_dflt (refine' reprObj_use ?k1 ?k2 ?k3 ?k4 ?k5 ?k6 ?k7 ?_; (case k1 => assumption); (case k2 => k_asm); (case k3 => k_asm); (case k4 => exact rfl); (case k5 => exact rfl); (case k6 => exact Nat.le_of_ble_eq_true rfl); (case k7 => exact Nat.le_of_ble_eq_true rfl); k_whole; intro zqhp zqup zqtkp zqFp zqNp)))
  trivial
def iniB (K : Frag) (C : Addr) : Bool := (findIn K (.ref C) "__setattr__" == some (some (.builtin "object.__setattr__"))) && excOver K C && (takerIn K C "message" == some none) && hasDictIn K C && (subIn K (.ref C) (.type "Exception") == some true)
def Halt (P : Prop) : Prop := P
theorem layIni023 : True := by
  k_with "setAttr ref" => ((k_here; refine (show Halt _ from ?_)))
  k_with "call builtin:Exception.__init__" => ((k_here; refine (show Halt _ from ?_)))
  k_with "BackIn" => ((refine (show Halt _ from ?_)))
  trivial
theorem errIni : ∀ {p : Program} {loose : List Str} {mean : ExcName → Option Value} {mg mb : Str → Option Value} {w : World} {A : Around} {E : Value → Shared → Prop} {s : Shared} {h₀ : Heap} {L : Addr} {m : Str → Option Value} {news : List (Addr × Obj)} {gg : Obj → List (Addr × Obj)} {x ta C : Addr} {msg : Str} {u : Tok} {Q : Value → Shared → Prop}
    (F : Fr h₀ L s.heap m) (KX : (hz.heap_129 w.params).In h₀) (T : Top p loose mean mg mb h₀) (N : News h₀ L s.heap news) (U : UpdF x (excObj C none ta) news gg) (hC : iniB (hz.heap_129 w.params) C = true) (hA : A.depth < 900)
    (hQ : ∀ d t h' tk uk, Fr h₀ L h' m → News h₀ L h' ((t, tupObj [.str msg u]) :: (d, dictOf [⟨PyData.keyHash w.params "message", .str "message" uk, .str msg u⟩] 1) :: gg (excObj C (some d) t)) → (∀ p ∈ news, p.1 < d) → (∀ p ∈ news, p.1 < t) → d < t → Q .none { s with heap := h', toks := tk }),
    wpAny (model PySem.Challenge.rw_dm0028_02.prog w) A (call (.ref 29) [.ref x, .str msg u]) Q E s := by
  w_top off
  k_fill
  intro p loose mean mg mb w A E s h₀ L m news gg x ta C msg u Q F KX T N U hC hA hQ
  simp only [iniB, Bool.and_eq_true, beq_iff_eq] at hC
  obtain ⟨hh, g, dr, tk, os⟩ := s
  dsimp only at F N hQ
  w_strict (
  refine wpAny_call ?_
  k_dflt (refine' enter_in F KX N T.nolimit ?k5 ?k6 ?k7 ?k8 ?kB ?c2 ?c3 ?c4 ?c5 ?_; (case k5 => k_is); (case k6 => k_is); (case k7 => exact Nat.lt_of_lt_of_le hA (Nat.le_of_ble_eq_true rfl)); (case k8 => first | exact BindsTo.of_eq (binds := [(_, _), (_, _)]) rfl | exact binds_K (binds := [(_, _), (_, _)]) (KX.keeps F.keep) rfl (by k_is) rfl rfl rfl); (case c5 => decide); (case kB => exact locs rfl); (case c2 => exact rfl); (case c3 => exact rfl); (case c4 => exact rfl))
  intro oL L' h' tk' F' N' l1 l2
  clear F N
  walk_at "mine texts"
  k_steps
  unfold Halt
  have hxL : L ≠ x := fun e => l2 _ (updF_mem U).1 e.symm
  refine exc_set0 F' KX N' (.tail _ (updF_mem U).1) hC.1.1.1.1 hC.1.1.1.2 hC.1.1.2 hC.1.2 (fun d => .tail hxL (updF_to U _)) ?_
  intro d h1 F1 N1 l3
  clear F' N'
  k_steps
  unfold Halt
  have l5 : ∀ p ∈ news, p.1 < d := fun p hp => l3 p (.tail _ hp)
  have hxd : x < d := l5 _ (updF_mem U).1
  refine exc_init_call F1 KX N1 (InstAt.of_exc N1 (.tail _ (.tail _ ((updF_mem U).2 _).1)) (.head _)) hC.2 (fun t => .tail (Nat.ne_of_gt hxd) (.tail hxL (updF_on U _ _))) ?_
  intro t h2 F2 N2 l4
  clear F1 N1
  k_steps
  unfold Halt
  have l6 : L < t := l4 _ (.tail _ (.head _))
  have l7 : d < t := l4 _ (.head _)
  have l8 : L < d := l3 _ (.head _)
  intro hb
  have D : ∀ od : Obj, Drop L oL ((t, tupObj [.str msg u]) :: (d, od) :: (L, oL) :: gg (excObj C (some d) t)) ((t, tupObj [.str msg u]) :: (d, od) :: gg (excObj C (some d) t)) := fun od => Drop.tail (p := (t, tupObj [.str msg u])) (Nat.ne_of_gt l6) (Drop.tail (p := (d, od)) (Nat.ne_of_gt l8) (Drop.head (updF_ne (o' := excObj C (some d) t) U l2)))
  have F3 := hb _ (N2 _ (.tail _ (.tail _ (.head _)))).1 F2.keep
  have N3 := fun p hp => (⟨(N2 p ((D _).sub p hp).1).1, ((D _).sub p hp).2, (N2 p ((D _).sub p hp).1).2.2⟩ : _ ∧ _ ∧ _)
  exact hQ d t h2 _ _ F3 N3 l5 (fun p hp => Nat.lt_trans (l5 p hp) l7) l7)
end
section
theorem layT02b1 : True := by
  k_with_none
  k_with "ne" => (with_reducible (first | exact ns1 | exact ns2 | exact qlt (by assumption) | exact qgt (by assumption) | exact qne (by assumption) | exact qen (by assumption) | exact rlt (by assumption) | exact rgt (by assumption) | exact rne (by assumption) | exact ren (by assumption) | exact qlt (And.right (by assumption)) | exact qgt (And.right (by assumption)) | exact qne (And.right (by assumption)) | exact qen (And.right (by assumption)) | exact rlt (And.right (by assumption)) | exact rgt (And.right (by assumption)) | exact rne (And.right (by assumption)) | exact ren (And.right (by assumption)) | exact qlt (And.right (And.right (by assumption))) | exact qgt (And.right (And.right (by assumption))) | exact qne (And.right (And.right (by assumption))) | exact qen (And.right (And.right (by assumption))) | exact rlt (And.right (And.right (by assumption))) | exact rgt (And.right (And.right (by assumption))) | exact rne (And.right (And.right (by assumption))) | exact ren (And.right (And.right (by assumption))) | exact qlt (And.right (And.right (And.right (by assumption)))) | exact qgt (And.right (And.right (And.right (by assumption)))) | exact qne (And.right (And.right (And.right (by assumption)))) | exact qen (And.right (And.right (And.right (by assumption)))) | exact rlt (And.right (And.right (And.right (by assumption)))) | exact rgt (And.right (And.right (And.right (by assumption)))) | exact rne (And.right (And.right (And.right (by assumption)))) | exact ren (And.right (And.right (And.right (by assumption)))) | exact qlt (And.right (And.right (And.right (And.right (by assumption))))) | exact qgt (And.right (And.right (And.right (And.right (by assumption))))) | exact qne (And.right (And.right (And.right (And.right (by assumption))))) | exact qen (And.right (And.right (And.right (And.right (by assumption))))) | exact rlt (And.right (And.right (And.right (And.right (by assumption))))) | exact rgt (And.right (And.right (And.right (And.right (by assumption))))) | exact rne (And.right (And.right (And.right (And.right (by assumption))))) | exact ren (And.right (And.right (And.right (And.right (by assumption))))) | exact qlt (And.right (And.right (And.right (And.right (And.right (by assumption)))))) | exact qgt (And.right (And.right (And.right (And.right (And.right (by assumption)))))) | exact qne (And.right (And.right (And.right (And.right (And.right (by assumption)))))) | exact qen (And.right (And.right (And.right (And.right (And.right (by assumption)))))) | exact rlt (And.right (And.right (And.right (And.right (And.right (by assumption)))))) | exact rgt (And.right (And.right (And.right (And.right (And.right (by assumption)))))) | exact rne (And.right (And.right (And.right (And.right (And.right (by assumption)))))) | exact ren (And.right (And.right (And.right (And.right (And.right (by assumption)))))) | exact qlt (And.right (And.right (And.right (And.right (And.right (And.right (by assumption))))))) | exact qgt (And.right (And.right (And.right (And.right (And.right (And.right (by assumption))))))) | exact qne (And.right (And.right (And.right (And.right (And.right (And.right (by assumption))))))) | exact qen (And.right (And.right (And.right (And.right (And.right (And.right (by assumption))))))) | exact rlt (And.right (And.right (And.right (And.right (And.right (And.right (by assumption))))))) | exact rgt (And.right (And.right (And.right (And.right (And.right (And.right (by assumption))))))) | exact rne (And.right (And.right (And.right (And.right (And.right (And.right (by assumption))))))) | exact ren (And.right (And.right (And.right (And.right (And.right (And.right (by assumption))))))) | exact qlt (And.right (And.right (And.right (And.right (And.right (And.right (And.right (by assumption)))))))) | exact qgt (And.right (And.right (And.right (And.right (And.right (And.right (And.right (by assumption)))))))) | exact qne (And.right (And.right (And.right (And.right (And.right (And.right (And.right (by assumption)))))))) | exact qen (And.right (And.right (And.right (And.right (And.right (And.right (And.right (by assumption)))))))) | exact rlt (And.right (And.right (And.right (And.right (And.right (And.right (And.right (by assumption)))))))) | exact rgt (And.right (And.right (And.right (And.right (And.right (And.right (And.right (by assumption)))))))) | exact rne (And.right (And.right (And.right (And.right (And.right (And.right (And.right (by assumption)))))))) | exact ren (And.right (And.right (And.right (And.right (And.right (And.right (And.right (by assumption)))))))) | exact qlt (And.right (And.right (And.right (And.right (And.right (And.right (And.right (And.right (by assumption))))))))) | exact qgt (And.right (And.right (And.right (And.right (And.right (And.right (And.right (And.right (by assumption))))))))) | exact qne (And.right (And.right (And.right (And.right (And.right (And.right (And.right (And.right (by assumption))))))))) | exact qen (And.right (And.right (And.right (And.right (And.right (And.right (And.right (And.right (by assumption))))))))) | exact rlt (And.right (And.right (And.right (And.right (And.right (And.right (And.right (And.right (by assumption))))))))) | exact rgt (And.right (And.right (And.right (And.right (And.right (And.right (And.right (And.right (by assumption))))))))) | exact rne (And.right (And.right (And.right (And.right (And.right (And.right (And.right (And.right (by assumption))))))))) | exact ren (And.right (And.right (And.right (And.right (And.right (And.right (And.right (And.right (by assumption))))))))) | exact qlt (And.right (And.right (And.right (And.right (And.right (And.right (And.right (And.right (And.right (by assumption)))))))))) | exact qgt (And.right (And.right (And.right (And.right (And.right (And.right (And.right (And.right (And.right (by assumption)))))))))) | exact qne (And.right (And.right (And.right (And.right (And.right (And.right (And.right (And.right (And.right (by assumption)))))))))) | exact qen (And.right (And.right (And.right (And.right (And.right (And.right (And.right (And.right (And.right (by assumption)))))))))) | exact rlt (And.right (And.right (And.right (And.right (And.right (And.right (And.right (And.right (And.right (by assumption)))))))))) | exact rgt (And.right (And.right (And.right (And.right (And.right (And.right (And.right (And.right (And.right (by assumption)))))))))) | exact rne (And.right (And.right (And.right (And.right (And.right (And.right (And.right (And.right (And.right (by assumption)))))))))) | exact ren (And.right (And.right (And.right (And.right (And.right (And.right (And.right (And.right (And.right (by assumption)))))))))) | exact qlt (And.right (And.right (And.right (And.right (And.right (And.right (And.right (And.right (And.right (And.right (by assumption))))))))))) | exact qgt (And.right (And.right (And.right (And.right (And.right (And.right (And.right (And.right (And.right (And.right (by assumption))))))))))) | exact qne (And.right (And.right (And.right (And.right (And.right (And.right (And.right (And.right (And.right (And.right (by assumption))))))))))) | exact qen (And.right (And.right (And.right (And.right (And.right (And.right (And.right (And.right (And.right (And.right (by assumption))))))))))) | exact rlt (And.right (And.right (And.right (And.right (And.right (And.right (And.right (And.right (And.right (And.right (by assumption))))))))))) | exact rgt (And.right (And.right (And.right (And.right (And.right (And.right (And.right (And.right (And.right (And.right (by assumption))))))))))) | exact rne (And.right (And.right (And.right (And.right (And.right (And.right (And.right (And.right (And.right (And.right (by assumption))))))))))) | exact ren (And.right (And.right (And.right (And.right (And.right (And.right (And.right (And.right (And.right (And.right (by assumption))))))))))) | exact qlt (And.right (And.right (And.right (And.right (And.right (And.right (And.right (And.right (And.right (And.right (And.right (by assumption)))))))))))) | exact qgt (And.right (And.right (And.right (And.right (And.right (And.right (And.right (And.right (And.right (And.right (And.right (by assumption)))))))))))) | exact qne (And.right (And.right (And.right (And.right (And.right (And.right (And.right (And.right (And.right (And.right (And.right (by assumption)))))))))))) | exact qen (And.right (And.right (And.right (And.right (And.right (And.right (And.right (And.right (And.right (And.right (And.right (by assumption)))))))))))) | exact rlt (And.right (And.right (And.right (And.right (And.right (And.right (And.right (And.right (And.right (And.right (And.right (by assumption)))))))))))) | exact rgt (And.right (And.right (And.right (And.right (And.right (And.right (And.right (And.right (And.right (And.right (And.right (by assumption)))))))))))) | exact rne (And.right (And.right (And.right (And.right (And.right (And.right (And.right (And.right (And.right (And.right (And.right (by assumption)))))))))))) | exact ren (And.right (And.right (And.right (And.right (And.right (And.right (And.right (And.right (And.right (And.right (And.right (by assumption)))))))))))) | exact qlt (And.right (And.right (And.right (And.right (And.right (And.right (And.right (And.right (And.right (And.right (And.right (And.right (by assumption))))))))))))) | exact qgt (And.right (And.right (And.right (And.right (And.right (And.right (And.right (And.right (And.right (And.right (And.right (And.right (by assumption))))))))))))) | exact qne (And.right (And.right (And.right (And.right (And.right (And.right (And.right (And.right (And.right (And.right (And.right (And.right (by assumption))))))))))))) | exact qen (And.right (And.right (And.right (And.right (And.right (And.right (And.right (And.right (And.right (And.right (And.right (And.right (by assumption))))))))))))) | exact rlt (And.right (And.right (And.right (And.right (And.right (And.right (And.right (And.right (And.right (And.right (And.right (And.right (by assumption))))))))))))) | exact rgt (And.right (And.right (And.right (And.right (And.right (And.right (And.right (And.right (And.right (And.right (And.right (And.right (by assumption))))))))))))) | exact rne (And.right (And.right (And.right (And.right (And.right (And.right (And.right (And.right (And.right (And.right (And.right (And.right (by assumption))))))))))))) | exact ren (And.right (And.right (And.right (And.right (And.right (And.right (And.right (And.right (And.right (And.right (And.right (And.right (by assumption))))))))))))) | exact qlt (And.right (And.right (And.right (And.right (And.right (And.right (And.right (And.right (And.right (And.right (And.right (And.right (And.right (by assumption)))))))))))))) | exact qgt (And.right (And.right (And.right (And.right (And.right (And.right (And.right (And.right (And.right (And.right (And.right (And.right (And.right (by assumption)))))))))))))) | exact qne (And.right (And.right (And.right (And.right (And.right (And.right (And.right (And.right (And.right (And.right (And.right (And.right (And.right (by assumption)))))))))))))) | exact qen (And.right (And.right (And.right (And.right (And.right (And.right (And.right (And.right (And.right (And.right (And.right (And.right (And.right (by assumption)))))))))))))) | exact rlt (And.right (And.right (And.right (And.right (And.right (And.right (And.right (And.right (And.right (And.right (And.right (And.right (And.right (by assumption)))))))))))))) | exact rgt (And.right (And.right (And.right (And.right (And.right (And.right (And.right (And.right (And.right (And.right (And.right (And.right (And.right (by assumption)))))))))))))) | exact rne (And.right (And.right (And.right (And.right (And.right (And.right (And.right (And.right (And.right (And.right (And.right (And.right (And.right (by assumption)))))))))))))) | exact ren (And.right (And.right (And.right (And.right (And.right (And.right (And.right (And.right (And.right (And.right (And.right (And.right (And.right (by assumption)))))))))))))) | exact qlt (And.right (And.right (And.right (And.right (And.right (And.right (And.right (And.right (And.right (And.right (And.right (And.right (And.right (And.right (by assumption))))))))))))))) | exact qgt (And.right (And.right (And.right (And.right (And.right (And.right (And.right (And.right (And.right (And.right (And.right (And.right (And.right (And.right (by assumption))))))))))))))) | exact qne (And.right (And.right (And.right (And.right (And.right (And.right (And.right (And.right (And.right (And.right (And.right (And.right (And.right (And.right (by assumption))))))))))))))) | exact qen (And.right (And.right (And.right (And.right (And.right (And.right (And.right (And.right (And.right (And.right (And.right (And.right (And.right (And.right (by assumption))))))))))))))) | exact rlt (And.right (And.right (And.right (And.right (And.right (And.right (And.right (And.right (And.right (And.right (And.right (And.right (And.right (And.right (by assumption))))))))))))))) | exact rgt (And.right (And.right (And.right (And.right (And.right (And.right (And.right (And.right (And.right (And.right (And.right (And.right (And.right (And.right (by assumption))))))))))))))) | exact rne (And.right (And.right (And.right (And.right (And.right (And.right (And.right (And.right (And.right (And.right (And.right (And.right (And.right (And.right (by assumption))))))))))))))) | exact ren (And.right (And.right (And.right (And.right (And.right (And.right (And.right (And.right (And.right (And.right (And.right (And.right (And.right (And.right (by assumption))))))))))))))) | exact qlt (And.right (And.right (And.right (And.right (And.right (And.right (And.right (And.right (And.right (And.right (And.right (And.right (And.right (And.right (And.right (by assumption)))))))))))))))) | exact qgt (And.right (And.right (And.right (And.right (And.right (And.right (And.right (And.right (And.right (And.right (And.right (And.right (And.right (And.right (And.right (by assumption)))))))))))))))) | exact qne (And.right (And.right (And.right (And.right (And.right (And.right (And.right (And.right (And.right (And.right (And.right (And.right (And.right (And.right (And.right (by assumption)))))))))))))))) | exact qen (And.right (And.right (And.right (And.right (And.right (And.right (And.right (And.right (And.right (And.right (And.right (And.right (And.right (And.right (And.right (by assumption)))))))))))))))) | exact rlt (And.right (And.right (And.right (And.right (And.right (And.right (And.right (And.right (And.right (And.right (And.right (And.right (And.right (And.right (And.right (by assumption)))))))))))))))) | exact rgt (And.right (And.right (And.right (And.right (And.right (And.right (And.right (And.right (And.right (And.right (And.right (And.right (And.right (And.right (And.right (by assumption)))))))))))))))) | exact rne (And.right (And.right (And.right (And.right (And.right (And.right (And.right (And.right (And.right (And.right (And.right (And.right (And.right (And.right (And.right (by assumption)))))))))))))))) | exact ren (And.right (And.right (And.right (And.right (And.right (And.right (And.right (And.right (And.right (And.right (And.right (And.right (And.right (And.right (And.right (by assumption))))))))))))))))))
  trivial
theorem layT02b2 : True := by
  k_with "mine texts" => ((try dsimp only [← sx0, ← sx1, ← sx2, ← sx3, ← sx4, ← sx5, ← sx6, ← sx7, ← sx8, ← sx9, ← sx10, ← sx11, ← sx12, ← sx13, ← sx14, ← sx15, ← sx16, ← sx17, ← sx18, ← sx19, ← sx20, ← sx21, ← sx22, ← sx23, ← sx24, ← sx25, ← sx26, ← sx27, ← sx28, ← sx29, ← sx30, ← sx31, ← sx32, ← sx33, ← sx34, ← sx35, ← sx36, ← sx37, ← sx38, ← sx39, ← sx40, ← sx41, ← sx42, ← sx43, ← sx44, ← sx45, ← sx46, ← sx47, ← sx48, ← sx49, ← sx50, ← sx51, ← sx52, ← sx53, ← sx54, ← sx55, ← sx56, ← sx57, ← sx58, ← sx59, ← sx60, ← sx61, ← sx62, ← sx63, ← sx64, ← sx65, ← sx66, ← sx67, ← sx68, ← sx69, ← sx70, ← sx71, ← sx72, ← sx73, ← sx74, ← sx75, ← sx76, ← sx77, ← sx78, ← sx79, ← sx80, ← sx81, ← sx82, ← sx83, ← sx84, ← sx85, ← sx86, ← sx87, ← sx88, ← sx89, ← sx90, ← sx91, ← sx92]))
  k_with "mine drop" => (first | (refine' Drop.head ?a; (case a => k_all)) | (refine' Drop.tail ?a ?b; (case a => k_ne); (case b => walk_at "mine drop")))
  k_with "setAttr ref" => ((k_here; k_dflt (first | (refine' exc_set0 ?k1 ?k2 ?k3 ?k4 ?k5 ?k6 ?k7 ?k8 ?k9 ?_; (case k1 => k_asm); (case k2 => k_asm); (case k3 => k_asm); (case k4 => k_mem); (case k5 => k_is); (case k6 => kernel_rfl); (case k7 => k_is); (case k8 => k_is); (case k9 => intro zqd; k_upd); k_whole; intro zqdp zqhp zqFp zqNp zql1; (try k_lt zql1)) | (refine' exc_set_args ?k1 ?k2 ?k3 ?k4 ?k5 ?k6 ?k7 ?k8 ?k9 ?k10 ?_; (case k1 => k_asm); (case k2 => k_asm); (case k3 => k_asm); (case k4 => first | (refine' InstAt.of_exc ?N ?h1 ?h2; (case N => k_asm); (case h1 => k_mem); (case h2 => k_mem)) | (refine' InstAt.of_exc0 ?N ?h1; (case N => k_asm); (case h1 => k_mem))); (case k5 => exact isTup_of (by k_asm) (by k_mem)); (case k6 => k_is); (case k7 => kernel_rfl); (case k8 => k_is); (case k9 => k_is); (case k10 => k_upd); k_whole; intro zqhp zqFp zqNp) | (refine' exc_set ?k1 ?k2 ?k3 ?k4 ?k5 ?k6 ?k7 ?k8 ?k9 ?k10 ?k11 ?k12 ?_; (case k1 => k_asm); (case k2 => k_asm); (case k3 => k_asm); (case k4 => first | (refine' InstAt.of_exc ?N ?h1 ?h2; (case N => k_asm); (case h1 => k_mem); (case h2 => k_mem)) | (refine' InstAt.of_exc0 ?N ?h1; (case N => k_asm); (case h1 => k_mem))); (case k5 => k_is); (case k6 => kernel_rfl); (case k7 => k_is); (case k8 => k_is); (case k9 => k_get); (case k10 => k_put); (case k11 => k_upd); (case k12 => exact Nat.le_of_ble_eq_true rfl); k_whole; intro zqhp zqFp zqNp))))
  k_with "call builtin:Exception.__init__" => ((k_here; k_dflt (refine' exc_init_call ?k1 ?k2 ?k3 ?k4 ?k5 ?k6 ?_; (case k1 => k_asm); (case k2 => k_asm); (case k3 => k_asm); (case k4 => first | (refine' InstAt.of_exc ?N ?h1 ?h2; (case N => k_asm); (case h1 => k_mem); (case h2 => k_mem)) | (refine' InstAt.of_exc0 ?N ?h1; (case N => k_asm); (case h1 => k_mem))); (case k5 => k_is); (case k6 => intro zqt; k_upd); k_whole; intro zqtp zqhp zqFp zqNp zql1; (try k_lt zql1))))
  k_with "call builtin:repr" => ((k_here; k_dflt (refine' repr_use ?k1 ?k2 ?k3 ?k4 ?k5 ?k6 ?k7 ?_; (case k1 => assumption); (case k2 => k_asm); (case k3 => k_asm); (case k4 => exact rfl); (case k5 => exact rfl); (case k6 => exact Nat.le_of_ble_eq_true rfl); (case k7 => exact Nat.le_of_ble_eq_true rfl); k_whole; intro zqhp zqup zqtkp zqFp zqNp)))
  k_with "BackIn" => ((k_dflt (refine' back_ ?k1 ?k2 ?k3 ?_; (case k1 => k_asm); (case k2 => k_asm); (case k3 => walk_at "mine drop"); k_whole; intro zqFp zqNp; (try dsimp only))))
  k_with "call ref" => ((k_here; k_dflt (refine wpAny_call ?_; refine' enter_in ?k1 ?k2 ?k3 ?k4 ?k5 ?k6 ?k7 ?k8 ?kB ?c2 ?c3 ?c4 ?c5 ?_; (case k1 => k_asm); (case k2 => k_asm); (case k3 => k_asm); (case k4 => exact Top.nolimit (by assumption)); (case k5 => k_is); (case k6 => k_is); (case k7 => exact Nat.le_of_ble_eq_true rfl); (case k8 => first | ((with_reducible show BindsTo _ _ ⟨[_], []⟩ _); first | exact BindsTo.of_eq (binds := [(_, _)]) rfl | exact binds_K (binds := [(_, _)]) (by k_in) rfl (by k_is) rfl rfl rfl) | ((with_reducible show BindsTo _ _ ⟨[_, _], []⟩ _); first | exact BindsTo.of_eq (binds := [(_, _), (_, _)]) rfl | exact binds_K (binds := [(_, _), (_, _)]) (by k_in) rfl (by k_is) rfl rfl rfl) | ((with_reducible show BindsTo _ _ ⟨[_, _, _], []⟩ _); first | exact BindsTo.of_eq (binds := [(_, _), (_, _), (_, _)]) rfl | exact binds_K (binds := [(_, _), (_, _), (_, _)]) (by k_in) rfl (by k_is) rfl rfl rfl) | ((with_reducible show BindsTo _ _ ⟨[_, _, _, _], []⟩ _); first | exact BindsTo.of_eq (binds := [(_, _), (_, _), (_, _), (_, _)]) rfl | exact binds_K (binds := [(_, _), (_, _), (_, _), (_, _)]) (by k_in) rfl (by k_is) rfl rfl rfl) | ((with_reducible show BindsTo _ _ ⟨[_, _, _, _, _], []⟩ _); first | exact BindsTo.of_eq (binds := [(_, _), (_, _), (_, _), (_, _), (_, _)]) rfl | exact binds_K (binds := [(_, _), (_, _), (_, _), (_, _), (_, _)]) (by k_in) rfl (by k_is) rfl rfl rfl)); (case c5 => decide); (case kB => exact locs rfl); (case c2 => exact rfl); (case c3 => exact rfl); (case c4 => exact rfl); k_whole; intro zqoLp zqLp zqhp zqtkp zqFp zqNp zql1 zqn1; (try k_lt zql1); (try (replace zqn1 := allNe_of zqn1; simp only [AllNe, and_true] at zqn1)); (try dsimp only); walk_at "mine texts")))
  k_with "call builtin:str.join" => ((k_here; (with_reducible show wpAny _ _ (call (Value.builtin "str.join") [Value.str _ _, Value.ref _]) _ _ _); k_dflt (refine join_listC (by is_list) (by repeat constructor) (by decide) (by (simp only [List.map_cons, List.map_nil, List.sum_cons, List.sum_nil, List.length_cons, List.length_nil]; omega)) ?_); intro zqtp zqkp))
  k_with "getMethod type:Exception" => ((k_here; refine' method_type ?F ?X ?m (by decide +kernel) ?e ?h ?_; (case F => k_asm); (case X => k_asm); (case m => exact meta_Exception); (case e => k_dflt k_is); (case h => k_handed)))
  k_with "compareOp IsNot" => ((k_here; k_dflt (refine isNot_none (by assumption) ?_)))
  k_with "call builtin:str.format" => ((k_here; k_dflt (refine' line_use ?k1 ?k2 ?k3 ?k4 ?k5 ?k6 ?k7 ?_; (case k1 => assumption); (case k2 => k_asm); (case k3 => k_asm); (case k4 => exact rfl); (case k5 => exact rfl); (case k6 => exact Nat.le_of_ble_eq_true rfl); (case k7 => exact Nat.le_of_ble_eq_true rfl); k_whole; intro zqhp zqup zqtkp zqFp zqNp)))
  k_with "call builtin:str.format" => ((k_here; (with_reducible show wpAny _ _ (call (Value.builtin "str.format") [Value.str _ _, _, _, _, _]) _ _ _); k_dflt (refine' fmt_use ?k1 ?k2 ?k3 ?k4 ?k5 ?_; (case k1 => k_asm); (case k2 => k_asm); (case k3 => exact ⟨rfl, rfl, Nat.le_of_ble_eq_true rfl, Nat.le_of_ble_eq_true rfl⟩); (case k4 => exact args_5 _ _ _ _ _); (case k5 => walk_at "mine fmt")); k_whole; intro zqhp zqup zqtkp zqFp zqNp))
  k_with "pyReprObj" => ((k_here; k_dflt (refine' reprObj_use ?k1 ?k2 ?k3 ?k4 ?k5 ?k6 ?k7 ?_; (case k1 => assumption); (case k2 => k_asm); (case k3 => k_asm); (case k4 => exact rfl); (case k5 => exact rfl); (case k6 => exact Nat.le_of_ble_eq_true rfl); (case k7 => exact Nat.le_of_ble_eq_true rfl); k_whole; intro zqhp zqup zqtkp zqFp zqNp)))
  trivial
theorem halt_ {P : Prop} (h : Halt P) : P := h
theorem layT02b3 : True := by
  k_with "exec While Compare cons nil" => ((k_here; refine halt_ ?_))
  k_with "exec While BoolOp cons nil" => ((k_here; refine halt_ ?_))
  k_with "subscriptTail Name BinOp str int" => ((k_here; refine halt_ ?_))
  k_with "subscriptTail" => ((k_here; (with_reducible show wpAny _ _ (subscriptTail _ _ (Value.str _ _) (Value.int _ _)) _ _ _); refine halt_ ?_))
  k_with "WhileStep2" => ((refine halt_ ?_))
  k_with "pyIter str" => ((k_here; refine halt_ ?_))
  k_with "exec For" => ((k_here; (rename Fr _ _ _ _ => lF'); (with_unfolding_all refine' For_invVF lF' ?k1 ?k2 ?_; (case k1 => exact rfl); (case k2 => exact rfl); k_whole)))
  trivial
theorem fig02 : ∀ {p : Program} {loose : List Str} {mean : ExcName → Option Value} {mg mb : Str → Option Value} (w : World) (s : Shared) (k : Int) (kt : Tok) (h1 : k.natAbs < 10 ^ 6)
    (Q E : Value → Shared → Prop) (KX : (hz.heap_129 w.params).In s.heap) (T : Top p loose mean mg mb s.heap)
    (hQ : ∀ h' tk (u : Tok), Grow s.heap h' → Q (.str (toString k) u) { s with heap := h', toks := tk }),
    wpAny (model PySem.Challenge.rw_dm0028_02.prog w) (AD 700 2500) (call (.ref 75) [.int k kt]) Q E s := by
  w_top off
  k_fill
  intro p loose mean mg mb w s k kt h1 Q E KX T hQ
  obtain ⟨hh, g, dr, tk, os⟩ := s
  dsimp only at KX T  hQ
  w_strict (
  refine wpAny_call ?_
  k_dflt (refine' enter_new (h₀ := hh) (binds := [("number", .int k kt)]) (news := []) ?k1 ?k2 KX T.nolimit ?k9 ?k5 ?k6 ?k7 ?k8 ?kB ?c2 ?c3 ?c4 ?c5 ?_; (case k5 => k_is); (case k6 => k_is); (case k7 => exact Nat.le_of_ble_eq_true rfl); (case k8 => first | exact BindsTo.of_eq rfl | exact binds_K KX rfl (by k_is) rfl rfl rfl); (case c5 => decide); (case kB => exact locs rfl); (case c2 => exact rfl); (case c3 => exact rfl); (case c4 => exact rfl); (case k1 => exact fun _ _ e => e); (case k2 => exact Nat.le_refl _); (case k9 => exact List.forall_mem_nil _))
  intro L' h' tk' F' N' l1
  walk_at "mine texts"
  k_steps
  unfold Halt
  (with_reducible rename Fr _ _ _ _ => F3)
  (with_reducible rename News _ _ _ _ => N3)
  refine While_inv2 (n₀ := 8) (fun j m nx => WF 8 k.natAbs (.int k kt) m nx j) F3 N3 ⟨rfl, rfl, k.natAbs, _, _, _, congrArg (fun z => some (Value.int z _)) (int_nat k), rfl, .inl ⟨rfl, rfl, rfl⟩⟩ ?zw
  rintro j m₂ nx h₁ tk₁ F4 N4 ⟨rfl, e2, k4, t4, x4, u4, e1, e3, hw⟩
  clear F3 N3
  replace F4 := fr_names [(Str.ofString "number", _), (Str.ofString "left", _), (Str.ofString "out", _)] (List.forall_mem_cons.mpr ⟨e2, List.forall_mem_cons.mpr ⟨e1, List.forall_mem_cons.mpr ⟨e3, List.forall_mem_nil _⟩⟩⟩) F4
  dsimp only [kstB] at F4
  have hxl : x4.length ≤ 8 := by
    rcases hw with ⟨_, _, rfl⟩ | ⟨_, _, _, hw, _⟩
    · decide
    · omega
  k_steps
  iterate 2
    · unfold Halt
      refine item_is (x := Str.ofString "0123456789") (fig_at k4) ?_
      k_steps
      unfold Halt
      (with_reducible rename Fr _ _ _ _ => F5)
      (with_reducible rename News _ _ _ _ => N5)
      obtain ⟨i, rfl, hw2⟩ := wf_step h1 hw (by first | exact .inl (by omega) | exact .inr (beq_iff_eq.mp (by assumption)))
      exact ⟨_, _, _, _, i, rfl, F5, N5, Nat.lt_succ_self _, rfl, by with_unfolding_all rfl, k4 / 10, _, _, _, congrArg (fun z => some (Value.int z _)) (fd10 k4), by with_unfolding_all rfl, .inr hw2⟩
  · with_reducible rename Fr _ _ _ _ => F5
    have e := wf_done hw (by assumption) (by assumption)
    subst e
    rw [fig_neg (by assumption)]
    exact hQ _ _ _ F5.keep
  · with_reducible rename Fr _ _ _ _ => F5
    have e := wf_done hw (by assumption) (by assumption)
    subst e
    rw [fig_pos (by assumption)]
    exact hQ _ _ _ F5.keep)
end
section
theorem layT02c1 : True := by
  k_with_none
  k_with "ne" => (with_reducible (first | exact ns1 | exact ns2 | exact qlt (by assumption) | exact qgt (by assumption) | exact qne (by assumption) | exact qen (by assumption) | exact rlt (by assumption) | exact rgt (by assumption) | exact rne (by assumption) | exact ren (by assumption) | exact qlt (And.right (by assumption)) | exact qgt (And.right (by assumption)) | exact qne (And.right (by assumption)) | exact qen (And.right (by assumption)) | exact rlt (And.right (by assumption)) | exact rgt (And.right (by assumption)) | exact rne (And.right (by assumption)) | exact ren (And.right (by assumption)) | exact qlt (And.right (And.right (by assumption))) | exact qgt (And.right (And.right (by assumption))) | exact qne (And.right (And.right (by assumption))) | exact qen (And.right (And.right (by assumption))) | exact rlt (And.right (And.right (by assumption))) | exact rgt (And.right (And.right (by assumption))) | exact rne (And.right (And.right (by assumption))) | exact ren (And.right (And.right (by assumption))) | exact qlt (And.right (And.right (And.right (by assumption)))) | exact qgt (And.right (And.right (And.right (by assumption)))) | exact qne (And.right (And.right (And.right (by assumption)))) | exact qen (And.right (And.right (And.right (by assumption)))) | exact rlt (And.right (And.right (And.right (by assumption)))) | exact rgt (And.right (And.right (And.right (by assumption)))) | exact rne (And.right (And.right (And.right (by assumption)))) | exact ren (And.right (And.right (And.right (by assumption)))) | exact qlt (And.right (And.right (And.right (And.right (by assumption))))) | exact qgt (And.right (And.right (And.right (And.right (by assumption))))) | exact qne (And.right (And.right (And.right (And.right (by assumption))))) | exact qen (And.right (And.right (And.right (And.right (by assumption))))) | exact rlt (And.right (And.right (And.right (And.right (by assumption))))) | exact rgt (And.right (And.right (And.right (And.right (by assumption))))) | exact rne (And.right (And.right (And.right (And.right (by assumption))))) | exact ren (And.right (And.right (And.right (And.right (by assumption))))) | exact qlt (And.right (And.right (And.right (And.right (And.right (by assumption)))))) | exact qgt (And.right (And.right (And.right (And.right (And.right (by assumption)))))) | exact qne (And.right (And.right (And.right (And.right (And.right (by assumption)))))) | exact qen (And.right (And.right (And.right (And.right (And.right (by assumption)))))) | exact rlt (And.right (And.right (And.right (And.right (And.right (by assumption)))))) | exact rgt (And.right (And.right (And.right (And.right (And.right (by assumption)))))) | exact rne (And.right (And.right (And.right (And.right (And.right (by assumption)))))) | exact ren (And.right (And.right (And.right (And.right (And.right (by assumption)))))) | exact qlt (And.right (And.right (And.right (And.right (And.right (And.right (by assumption))))))) | exact qgt (And.right (And.right (And.right (And.right (And.right (And.right (by assumption))))))) | exact qne (And.right (And.right (And.right (And.right (And.right (And.right (by assumption))))))) | exact qen (And.right (And.right (And.right (And.right (And.right (And.right (by assumption))))))) | exact rlt (And.right (And.right (And.right (And.right (And.right (And.right (by assumption))))))) | exact rgt (And.right (And.right (And.right (And.right (And.right (And.right (by assumption))))))) | exact rne (And.right (And.right (And.right (And.right (And.right (And.right (by assumption))))))) | exact ren (And.right (And.right (And.right (And.right (And.right (And.right (by assumption))))))) | exact qlt (And.right (And.right (And.right (And.right (And.right (And.right (And.right (by assumption)))))))) | exact qgt (And.right (And.right (And.right (And.right (And.right (And.right (And.right (by assumption)))))))) | exact qne (And.right (And.right (And.right (And.right (And.right (And.right (And.right (by assumption)))))))) | exact qen (And.right (And.right (And.right (And.right (And.right (And.right (And.right (by assumption)))))))) | exact rlt (And.right (And.right (And.right (And.right (And.right (And.right (And.right (by assumption)))))))) | exact rgt (And.right (And.right (And.right (And.right (And.right (And.right (And.right (by assumption)))))))) | exact rne (And.right (And.right (And.right (And.right (And.right (And.right (And.right (by assumption)))))))) | exact ren (And.right (And.right (And.right (And.right (And.right (And.right (And.right (by assumption)))))))) | exact qlt (And.right (And.right (And.right (And.right (And.right (And.right (And.right (And.right (by assumption))))))))) | exact qgt (And.right (And.right (And.right (And.right (And.right (And.right (And.right (And.right (by assumption))))))))) | exact qne (And.right (And.right (And.right (And.right (And.right (And.right (And.right (And.right (by assumption))))))))) | exact qen (And.right (And.right (And.right (And.right (And.right (And.right (And.right (And.right (by assumption))))))))) | exact rlt (And.right (And.right (And.right (And.right (And.right (And.right (And.right (And.right (by assumption))))))))) | exact rgt (And.right (And.right (And.right (And.right (And.right (And.right (And.right (And.right (by assumption))))))))) | exact rne (And.right (And.right (And.right (And.right (And.right (And.right (And.right (And.right (by assumption))))))))) | exact ren (And.right (And.right (And.right (And.right (And.right (And.right (And.right (And.right (by assumption))))))))) | exact qlt (And.right (And.right (And.right (And.right (And.right (And.right (And.right (And.right (And.right (by assumption)))))))))) | exact qgt (And.right (And.right (And.right (And.right (And.right (And.right (And.right (And.right (And.right (by assumption)))))))))) | exact qne (And.right (And.right (And.right (And.right (And.right (And.right (And.right (And.right (And.right (by assumption)))))))))) | exact qen (And.right (And.right (And.right (And.right (And.right (And.right (And.right (And.right (And.right (by assumption)))))))))) | exact rlt (And.right (And.right (And.right (And.right (And.right (And.right (And.right (And.right (And.right (by assumption)))))))))) | exact rgt (And.right (And.right (And.right (And.right (And.right (And.right (And.right (And.right (And.right (by assumption)))))))))) | exact rne (And.right (And.right (And.right (And.right (And.right (And.right (And.right (And.right (And.right (by assumption)))))))))) | exact ren (And.right (And.right (And.right (And.right (And.right (And.right (And.right (And.right (And.right (by assumption)))))))))) | exact qlt (And.right (And.right (And.right (And.right (And.right (And.right (And.right (And.right (And.right (And.right (by assumption))))))))))) | exact qgt (And.right (And.right (And.right (And.right (And.right (And.right (And.right (And.right (And.right (And.right (by assumption))))))))))) | exact qne (And.right (And.right (And.right (And.right (And.right (And.right (And.right (And.right (And.right (And.right (by assumption))))))))))) | exact qen (And.right (And.right (And.right (And.right (And.right (And.right (And.right (And.right (And.right (And.right (by assumption))))))))))) | exact rlt (And.right (And.right (And.right (And.right (And.right (And.right (And.right (And.right (And.right (And.right (by assumption))))))))))) | exact rgt (And.right (And.right (And.right (And.right (And.right (And.right (And.right (And.right (And.right (And.right (by assumption))))))))))) | exact rne (And.right (And.right (And.right (And.right (And.right (And.right (And.right (And.right (And.right (And.right (by assumption))))))))))) | exact ren (And.right (And.right (And.right (And.right (And.right (And.right (And.right (And.right (And.right (And.right (by assumption))))))))))) | exact qlt (And.right (And.right (And.right (And.right (And.right (And.right (And.right (And.right (And.right (And.right (And.right (by assumption)))))))))))) | exact qgt (And.right (And.right (And.right (And.right (And.right (And.right (And.right (And.right (And.right (And.right (And.right (by assumption)))))))))))) | exact qne (And.right (And.right (And.right (And.right (And.right (And.right (And.right (And.right (And.right (And.right (And.right (by assumption)))))))))))) | exact qen (And.right (And.right (And.right (And.right (And.right (And.right (And.right (And.right (And.right (And.right (And.right (by assumption)))))))))))) | exact rlt (And.right (And.right (And.right (And.right (And.right (And.right (And.right (And.right (And.right (And.right (And.right (by assumption)))))))))))) | exact rgt (And.right (And.right (And.right (And.right (And.right (And.right (And.right (And.right (And.right (And.right (And.right (by assumption)))))))))))) | exact rne (And.right (And.right (And.right (And.right (And.right (And.right (And.right (And.right (And.right (And.right (And.right (by assumption)))))))))))) | exact ren (And.right (And.right (And.right (And.right (And.right (And.right (And.right (And.right (And.right (And.right (And.right (by assumption)))))))))))) | exact qlt (And.right (And.right (And.right (And.right (And.right (And.right (And.right (And.right (And.right (And.right (And.right (And.right (by assumption))))))))))))) | exact qgt (And.right (And.right (And.right (And.right (And.right (And.right (And.right (And.right (And.right (And.right (And.right (And.right (by assumption))))))))))))) | exact qne (And.right (And.right (And.right (And.right (And.right (And.right (And.right (And.right (And.right (And.right (And.right (And.right (by assumption))))))))))))) | exact qen (And.right (And.right (And.right (And.right (And.right (And.right (And.right (And.right (And.right (And.right (And.right (And.right (by assumption))))))))))))) | exact rlt (And.right (And.right (And.right (And.right (And.right (And.right (And.right (And.right (And.right (And.right (And.right (And.right (by assumption))))))))))))) | exact rgt (And.right (And.right (And.right (And.right (And.right (And.right (And.right (And.right (And.right (And.right (And.right (And.right (by assumption))))))))))))) | exact rne (And.right (And.right (And.right (And.right (And.right (And.right (And.right (And.right (And.right (And.right (And.right (And.right (by assumption))))))))))))) | exact ren (And.right (And.right (And.right (And.right (And.right (And.right (And.right (And.right (And.right (And.right (And.right (And.right (by assumption))))))))))))) | exact qlt (And.right (And.right (And.right (And.right (And.right (And.right (And.right (And.right (And.right (And.right (And.right (And.right (And.right (by assumption)))))))))))))) | exact qgt (And.right (And.right (And.right (And.right (And.right (And.right (And.right (And.right (And.right (And.right (And.right (And.right (And.right (by assumption)))))))))))))) | exact qne (And.right (And.right (And.right (And.right (And.right (And.right (And.right (And.right (And.right (And.right (And.right (And.right (And.right (by assumption)))))))))))))) | exact qen (And.right (And.right (And.right (And.right (And.right (And.right (And.right (And.right (And.right (And.right (And.right (And.right (And.right (by assumption)))))))))))))) | exact rlt (And.right (And.right (And.right (And.right (And.right (And.right (And.right (And.right (And.right (And.right (And.right (And.right (And.right (by assumption)))))))))))))) | exact rgt (And.right (And.right (And.right (And.right (And.right (And.right (And.right (And.right (And.right (And.right (And.right (And.right (And.right (by assumption)))))))))))))) | exact rne (And.right (And.right (And.right (And.right (And.right (And.right (And.right (And.right (And.right (And.right (And.right (And.right (And.right (by assumption)))))))))))))) | exact ren (And.right (And.right (And.right (And.right (And.right (And.right (And.right (And.right (And.right (And.right (And.right (And.right (And.right (by assumption)))))))))))))) | exact qlt (And.right (And.right (And.right (And.right (And.right (And.right (And.right (And.right (And.right (And.right (And.right (And.right (And.right (And.right (by assumption))))))))))))))) | exact qgt (And.right (And.right (And.right (And.right (And.right (And.right (And.right (And.right (And.right (And.right (And.right (And.right (And.right (And.right (by assumption))))))))))))))) | exact qne (And.right (And.right (And.right (And.right (And.right (And.right (And.right (And.right (And.right (And.right (And.right (And.right (And.right (And.right (by assumption))))))))))))))) | exact qen (And.right (And.right (And.right (And.right (And.right (And.right (And.right (And.right (And.right (And.right (And.right (And.right (And.right (And.right (by assumption))))))))))))))) | exact rlt (And.right (And.right (And.right (And.right (And.right (And.right (And.right (And.right (And.right (And.right (And.right (And.right (And.right (And.right (by assumption))))))))))))))) | exact rgt (And.right (And.right (And.right (And.right (And.right (And.right (And.right (And.right (And.right (And.right (And.right (And.right (And.right (And.right (by assumption))))))))))))))) | exact rne (And.right (And.right (And.right (And.right (And.right (And.right (And.right (And.right (And.right (And.right (And.right (And.right (And.right (And.right (by assumption))))))))))))))) | exact ren (And.right (And.right (And.right (And.right (And.right (And.right (And.right (And.right (And.right (And.right (And.right (And.right (And.right (And.right (by assumption))))))))))))))) | exact qlt (And.right (And.right (And.right (And.right (And.right (And.right (And.right (And.right (And.right (And.right (And.right (And.right (And.right (And.right (And.right (by assumption)))))))))))))))) | exact qgt (And.right (And.right (And.right (And.right (And.right (And.right (And.right (And.right (And.right (And.right (And.right (And.right (And.right (And.right (And.right (by assumption)))))))))))))))) | exact qne (And.right (And.right (And.right (And.right (And.right (And.right (And.right (And.right (And.right (And.right (And.right (And.right (And.right (And.right (And.right (by assumption)))))))))))))))) | exact qen (And.right (And.right (And.right (And.right (And.right (And.right (And.right (And.right (And.right (And.right (And.right (And.right (And.right (And.right (And.right (by assumption)))))))))))))))) | exact rlt (And.right (And.right (And.right (And.right (And.right (And.right (And.right (And.right (And.right (And.right (And.right (And.right (And.right (And.right (And.right (by assumption)))))))))))))))) | exact rgt (And.right (And.right (And.right (And.right (And.right (And.right (And.right (And.right (And.right (And.right (And.right (And.right (And.right (And.right (And.right (by assumption)))))))))))))))) | exact rne (And.right (And.right (And.right (And.right (And.right (And.right (And.right (And.right (And.right (And.right (And.right (And.right (And.right (And.right (And.right (by assumption)))))))))))))))) | exact ren (And.right (And.right (And.right (And.right (And.right (And.right (And.right (And.right (And.right (And.right (And.right (And.right (And.right (And.right (And.right (by assumption))))))))))))))))))
  trivial
theorem layT02c2 : True := by
  k_with "mine texts" => ((try dsimp only [← sx0, ← sx1, ← sx2, ← sx3, ← sx4, ← sx5, ← sx6, ← sx7, ← sx8, ← sx9, ← sx10, ← sx11, ← sx12, ← sx13, ← sx14, ← sx15, ← sx16, ← sx17, ← sx18, ← sx19, ← sx20, ← sx21, ← sx22, ← sx23, ← sx24, ← sx25, ← sx26, ← sx27, ← sx28, ← sx29, ← sx30, ← sx31, ← sx32, ← sx33, ← sx34, ← sx35, ← sx36, ← sx37, ← sx38, ← sx39, ← sx40, ← sx41, ← sx42, ← sx43, ← sx44, ← sx45, ← sx46, ← sx47, ← sx48, ← sx49, ← sx50, ← sx51, ← sx52, ← sx53, ← sx54, ← sx55, ← sx56, ← sx57, ← sx58, ← sx59, ← sx60, ← sx61, ← sx62, ← sx63, ← sx64, ← sx65, ← sx66, ← sx67, ← sx68, ← sx69, ← sx70, ← sx71, ← sx72, ← sx73, ← sx74, ← sx75, ← sx76, ← sx77, ← sx78, ← sx79, ← sx80, ← sx81, ← sx82, ← sx83, ← sx84, ← sx85, ← sx86, ← sx87, ← sx88, ← sx89, ← sx90, ← sx91, ← sx92]))
  k_with "mine drop" => (first | (refine' Drop.head ?a; (case a => k_all)) | (refine' Drop.tail ?a ?b; (case a => k_ne); (case b => walk_at "mine drop")))
  k_with "setAttr ref" => ((k_here; k_dflt (first | (refine' exc_set0 ?k1 ?k2 ?k3 ?k4 ?k5 ?k6 ?k7 ?k8 ?k9 ?_; (case k1 => k_asm); (case k2 => k_asm); (case k3 => k_asm); (case k4 => k_mem); (case k5 => k_is); (case k6 => kernel_rfl); (case k7 => k_is); (case k8 => k_is); (case k9 => intro zqd; k_upd); k_whole; intro zqdp zqhp zqFp zqNp zql1; (try k_lt zql1)) | (refine' exc_set_args ?k1 ?k2 ?k3 ?k4 ?k5 ?k6 ?k7 ?k8 ?k9 ?k10 ?_; (case k1 => k_asm); (case k2 => k_asm); (case k3 => k_asm); (case k4 => first | (refine' InstAt.of_exc ?N ?h1 ?h2; (case N => k_asm); (case h1 => k_mem); (case h2 => k_mem)) | (refine' InstAt.of_exc0 ?N ?h1; (case N => k_asm); (case h1 => k_mem))); (case k5 => exact isTup_of (by k_asm) (by k_mem)); (case k6 => k_is); (case k7 => kernel_rfl); (case k8 => k_is); (case k9 => k_is); (case k10 => k_upd); k_whole; intro zqhp zqFp zqNp) | (refine' exc_set ?k1 ?k2 ?k3 ?k4 ?k5 ?k6 ?k7 ?k8 ?k9 ?k10 ?k11 ?k12 ?_; (case k1 => k_asm); (case k2 => k_asm); (case k3 => k_asm); (case k4 => first | (refine' InstAt.of_exc ?N ?h1 ?h2; (case N => k_asm); (case h1 => k_mem); (case h2 => k_mem)) | (refine' InstAt.of_exc0 ?N ?h1; (case N => k_asm); (case h1 => k_mem))); (case k5 => k_is); (case k6 => kernel_rfl); (case k7 => k_is); (case k8 => k_is); (case k9 => k_get); (case k10 => k_put); (case k11 => k_upd); (case k12 => exact Nat.le_of_ble_eq_true rfl); k_whole; intro zqhp zqFp zqNp))))
  k_with "call builtin:Exception.__init__" => ((k_here; k_dflt (refine' exc_init_call ?k1 ?k2 ?k3 ?k4 ?k5 ?k6 ?_; (case k1 => k_asm); (case k2 => k_asm); (case k3 => k_asm); (case k4 => first | (refine' InstAt.of_exc ?N ?h1 ?h2; (case N => k_asm); (case h1 => k_mem); (case h2 => k_mem)) | (refine' InstAt.of_exc0 ?N ?h1; (case N => k_asm); (case h1 => k_mem))); (case k5 => k_is); (case k6 => intro zqt; k_upd); k_whole; intro zqtp zqhp zqFp zqNp zql1; (try k_lt zql1))))
  k_with "call builtin:repr" => ((k_here; k_dflt (refine' repr_use ?k1 ?k2 ?k3 ?k4 ?k5 ?k6 ?k7 ?_; (case k1 => assumption); (case k2 => k_asm); (case k3 => k_asm); (case k4 => exact rfl); (case k5 => exact rfl); (case k6 => exact Nat.le_of_ble_eq_true rfl); (case k7 => exact Nat.le_of_ble_eq_true rfl); k_whole; intro zqhp zqup zqtkp zqFp zqNp)))
  k_with "BackIn" => ((k_dflt (refine' back_ ?k1 ?k2 ?k3 ?_; (case k1 => k_asm); (case k2 => k_asm); (case k3 => walk_at "mine drop"); k_whole; intro zqFp zqNp; (try dsimp only))))
  k_with "call ref" => ((k_here; k_dflt (refine wpAny_call ?_; refine' enter_in ?k1 ?k2 ?k3 ?k4 ?k5 ?k6 ?k7 ?k8 ?kB ?c2 ?c3 ?c4 ?c5 ?_; (case k1 => k_asm); (case k2 => k_asm); (case k3 => k_asm); (case k4 => exact Top.nolimit (by assumption)); (case k5 => k_is); (case k6 => k_is); (case k7 => exact Nat.le_of_ble_eq_true rfl); (case k8 => first | ((with_reducible show BindsTo _ _ ⟨[_], []⟩ _); first | exact BindsTo.of_eq (binds := [(_, _)]) rfl | exact binds_K (binds := [(_, _)]) (by k_in) rfl (by k_is) rfl rfl rfl) | ((with_reducible show BindsTo _ _ ⟨[_, _], []⟩ _); first | exact BindsTo.of_eq (binds := [(_, _), (_, _)]) rfl | exact binds_K (binds := [(_, _), (_, _)]) (by k_in) rfl (by k_is) rfl rfl rfl) | ((with_reducible show BindsTo _ _ ⟨[_, _, _], []⟩ _); first | exact BindsTo.of_eq (binds := [(_, _), (_, _), (_, _)]) rfl | exact binds_K (binds := [(_, _), (_, _), (_, _)]) (by k_in) rfl (by k_is) rfl rfl rfl) | ((with_reducible show BindsTo _ _ ⟨[_, _, _, _], []⟩ _); first | exact BindsTo.of_eq (binds := [(_, _), (_, _), (_, _), (_, _)]) rfl | exact binds_K (binds := [(_, _), (_, _), (_, _), (_, _)]) (by k_in) rfl (by k_is) rfl rfl rfl) | ((with_reducible show BindsTo _ _ ⟨[_, _, _, _, _], []⟩ _); first | exact BindsTo.of_eq (binds := [(_, _), (_, _), (_, _), (_, _), (_, _)]) rfl | exact binds_K (binds := [(_, _), (_, _), (_, _), (_, _), (_, _)]) (by k_in) rfl (by k_is) rfl rfl rfl)); (case c5 => decide); (case kB => exact locs rfl); (case c2 => exact rfl); (case c3 => exact rfl); (case c4 => exact rfl); k_whole; intro zqoLp zqLp zqhp zqtkp zqFp zqNp zql1 zqn1; (try k_lt zql1); (try (replace zqn1 := allNe_of zqn1; simp only [AllNe, and_true] at zqn1)); (try dsimp only); walk_at "mine texts")))
  k_with "call builtin:str.join" => ((k_here; (with_reducible show wpAny _ _ (call (Value.builtin "str.join") [Value.str _ _, Value.ref _]) _ _ _); k_dflt (refine join_listC (by is_list) (by repeat constructor) (by decide) (by (simp only [List.map_cons, List.map_nil, List.sum_cons, List.sum_nil, List.length_cons, List.length_nil]; omega)) ?_); intro zqtp zqkp))
  k_with "getMethod type:Exception" => ((k_here; refine' method_type ?F ?X ?m (by decide +kernel) ?e ?h ?_; (case F => k_asm); (case X => k_asm); (case m => exact meta_Exception); (case e => k_dflt k_is); (case h => k_handed)))
  k_with "compareOp IsNot" => ((k_here; k_dflt (refine isNot_none (by assumption) ?_)))
  k_with "call builtin:str.format" => ((k_here; k_dflt (refine' line_use ?k1 ?k2 ?k3 ?k4 ?k5 ?k6 ?k7 ?_; (case k1 => assumption); (case k2 => k_asm); (case k3 => k_asm); (case k4 => exact rfl); (case k5 => exact rfl); (case k6 => exact Nat.le_of_ble_eq_true rfl); (case k7 => exact Nat.le_of_ble_eq_true rfl); k_whole; intro zqhp zqup zqtkp zqFp zqNp)))
  k_with "call builtin:str.format" => ((k_here; (with_reducible show wpAny _ _ (call (Value.builtin "str.format") [Value.str _ _, _, _, _, _]) _ _ _); k_dflt (refine' fmt_use ?k1 ?k2 ?k3 ?k4 ?k5 ?_; (case k1 => k_asm); (case k2 => k_asm); (case k3 => exact ⟨rfl, rfl, Nat.le_of_ble_eq_true rfl, Nat.le_of_ble_eq_true rfl⟩); (case k4 => exact args_5 _ _ _ _ _); (case k5 => walk_at "mine fmt")); k_whole; intro zqhp zqup zqtkp zqFp zqNp))
  k_with "pyReprObj" => ((k_here; k_dflt (refine' reprObj_use ?k1 ?k2 ?k3 ?k4 ?k5 ?k6 ?k7 ?_; (case k1 => assumption); (case k2 => k_asm); (case k3 => k_asm); (case k4 => exact rfl); (case k5 => exact rfl); (case k6 => exact Nat.le_of_ble_eq_true rfl); (case k7 => exact Nat.le_of_ble_eq_true rfl); k_whole; intro zqhp zqup zqtkp zqFp zqNp)))
  trivial
theorem layT02c3 : True := by
  k_with "exec While Compare cons nil" => ((k_here; refine halt_ ?_))
  k_with "exec While BoolOp cons nil" => ((k_here; refine halt_ ?_))
  k_with "subscriptTail Name BinOp str int" => ((k_here; refine halt_ ?_))
  k_with "subscriptTail" => ((k_here; (with_reducible show wpAny _ _ (subscriptTail _ _ (Value.str _ _) (Value.int _ _)) _ _ _); refine halt_ ?_))
  k_with "WhileStep2" => ((refine halt_ ?_))
  k_with "pyIter str" => ((k_here; refine halt_ ?_))
  k_with "exec For" => ((k_here; (rename Fr _ _ _ _ => lF'); (with_unfolding_all refine' For_invVF lF' ?k1 ?k2 ?_; (case k1 => exact rfl); (case k2 => exact rfl); k_whole)))
  trivial
theorem quot02 : ∀ {p : Program} {loose : List Str} {mean : ExcName → Option Value} {mg mb : Str → Option Value} (w : World) (s : Shared) (x : Str) (t : Tok) (hs : Sg2 x) (hl : x.length ≤ 4)
    (Q E : Value → Shared → Prop) (KX : (hz.heap_129 w.params).In s.heap) (T : Top p loose mean mg mb s.heap)
    (hQ : ∀ h' tk (u : Tok), Grow s.heap h' → Q (.str (reprText x) u) { s with heap := h', toks := tk }),
    wpAny (model PySem.Challenge.rw_dm0028_02.prog w) (AD 700 2500) (call (.ref 82) [.str x t]) Q E s := by
  w_top off
  k_fill
  intro p loose mean mg mb w s x t hs hl Q E KX T hQ
  obtain ⟨hh, g, dr, tk, os⟩ := s
  dsimp only at KX T  hQ
  w_strict (
  refine wpAny_call ?_
  k_dflt (refine' enter_new (h₀ := hh) (binds := [("text", .str x t)]) (news := []) ?k1 ?k2 KX T.nolimit ?k9 ?k5 ?k6 ?k7 ?k8 ?kB ?c2 ?c3 ?c4 ?c5 ?_; (case k5 => k_is); (case k6 => k_is); (case k7 => exact Nat.le_of_ble_eq_true rfl); (case k8 => first | exact BindsTo.of_eq rfl | exact binds_K KX rfl (by k_is) rfl rfl rfl); (case c5 => decide); (case kB => exact locs rfl); (case c2 => exact rfl); (case c3 => exact rfl); (case c4 => exact rfl); (case k1 => exact fun _ _ e => e); (case k2 => exact Nat.le_refl _); (case k9 => exact List.forall_mem_nil _))
  intro L' h' tk' F' N' l1
  walk_at "mine texts"
  k_steps
  · unfold Halt
    (with_reducible rename Fr _ _ _ _ => F3)
    (with_reducible rename News _ _ _ _ => N3)
    refine loopQ 39 hl (by decide +kernel) rfl F3 N3 rfl ?zturn ?zdone
    case zdone =>
      intro o ou u h5 tk5 ho hol F5
      clear F3
      k_steps
      (with_reducible rename Fr _ _ _ _ => F6)
      have := quot_end hs (quoteA (by assumption)) ho
      rw [show Str.ofString "'" = ⟨#[39]⟩ from rfl, this]
      exact hQ _ _ _ F6.keep
    case zturn =>
      intro pre post n t5 o ou h5 tk5 own hpre ho hol F5 N5 Qt hQt
      clear F3 N3
      k_steps
      all_goals (
        (with_reducible rename Fr _ _ _ _ => F6)
        (with_reducible rename News _ _ _ _ => N6)
        refine hQt _ _ _ _ _ _ F6 N6 (fun p hp => hp) (by with_unfolding_all rfl) ?_ (fun z z1 z2 => by with_unfolding_all (simp only [if_neg z1, if_neg z2])))
      all_goals first
        | exact w_q (y := Str.ofString "'") rfl (by assumption)
        | exact w_b (by assumption)
        | exact w_n (y := Str.ofString "'") rfl (by assumption) (by assumption) (by assumption)
        | exact w_t (y := Str.ofString "'") rfl (by assumption) (by assumption) (by assumption) (by assumption)
        | exact w_0 (y := Str.ofString "'") rfl (by assumption) (by assumption) (by assumption) (by assumption) (by assumption)
        | exact w_e (y := Str.ofString "'") rfl (by assumption) (by assumption) (by assumption) (by assumption) (by assumption)
  · unfold Halt
    (with_reducible rename Fr _ _ _ _ => F3)
    (with_reducible rename News _ _ _ _ => N3)
    refine loopQ 34 hl (by decide +kernel) rfl F3 N3 rfl ?zturn ?zdone
    case zdone =>
      intro o ou u h5 tk5 ho hol F5
      clear F3
      k_steps
      (with_reducible rename Fr _ _ _ _ => F6)
      have := quot_end hs (quoteC (by assumption) (by assumption)) ho
      rw [show Str.ofString "\"" = ⟨#[34]⟩ from rfl, this]
      exact hQ _ _ _ F6.keep
    case zturn =>
      intro pre post n t5 o ou h5 tk5 own hpre ho hol F5 N5 Qt hQt
      clear F3 N3
      k_steps
      all_goals (
        (with_reducible rename Fr _ _ _ _ => F6)
        (with_reducible rename News _ _ _ _ => N6)
        refine hQt _ _ _ _ _ _ F6 N6 (fun p hp => hp) (by with_unfolding_all rfl) ?_ (fun z z1 z2 => by with_unfolding_all (simp only [if_neg z1, if_neg z2])))
      all_goals first
        | exact w_q (y := Str.ofString "\"") rfl (by assumption)
        | exact w_b (by assumption)
        | exact w_n (y := Str.ofString "\"") rfl (by assumption) (by assumption) (by assumption)
        | exact w_t (y := Str.ofString "\"") rfl (by assumption) (by assumption) (by assumption) (by assumption)
        | exact w_0 (y := Str.ofString "\"") rfl (by assumption) (by assumption) (by assumption) (by assumption) (by assumption)
        | exact w_e (y := Str.ofString "\"") rfl (by assumption) (by assumption) (by assumption) (by assumption) (by assumption)
  · unfold Halt
    (with_reducible rename Fr _ _ _ _ => F3)
    (with_reducible rename News _ _ _ _ => N3)
    refine loopQ 39 hl (by decide +kernel) rfl F3 N3 rfl ?zturn ?zdone
    case zdone =>
      intro o ou u h5 tk5 ho hol F5
      clear F3
      k_steps
      (with_reducible rename Fr _ _ _ _ => F6)
      have := quot_end hs (quoteB (by assumption)) ho
      rw [show Str.ofString "'" = ⟨#[39]⟩ from rfl, this]
      exact hQ _ _ _ F6.keep
    case zturn =>
      intro pre post n t5 o ou h5 tk5 own hpre ho hol F5 N5 Qt hQt
      clear F3 N3
      k_steps
      all_goals (
        (with_reducible rename Fr _ _ _ _ => F6)
        (with_reducible rename News _ _ _ _ => N6)
        refine hQt _ _ _ _ _ _ F6 N6 (fun p hp => hp) (by with_unfolding_all rfl) ?_ (fun z z1 z2 => by with_unfolding_all (simp only [if_neg z1, if_neg z2])))
      all_goals first
        | exact w_q (y := Str.ofString "'") rfl (by assumption)
        | exact w_b (by assumption)
        | exact w_n (y := Str.ofString "'") rfl (by assumption) (by assumption) (by assumption)
        | exact w_t (y := Str.ofString "'") rfl (by assumption) (by assumption) (by assumption) (by assumption)
        | exact w_0 (y := Str.ofString "'") rfl (by assumption) (by assumption) (by assumption) (by assumption) (by assumption)
        | exact w_e (y := Str.ofString "'") rfl (by assumption) (by assumption) (by assumption) (by assumption) (by assumption)
)
end
section
theorem layW02n_1 : True := by
  k_with_none
  k_with "ne" => (with_reducible (first | exact ns1 | exact ns2 | exact qlt (by assumption) | exact qgt (by assumption) | exact qne (by assumption) | exact qen (by assumption) | exact rlt (by assumption) | exact rgt (by assumption) | exact rne (by assumption) | exact ren (by assumption) | exact qlt (And.right (by assumption)) | exact qgt (And.right (by assumption)) | exact qne (And.right (by assumption)) | exact qen (And.right (by assumption)) | exact rlt (And.right (by assumption)) | exact rgt (And.right (by assumption)) | exact rne (And.right (by assumption)) | exact ren (And.right (by assumption)) | exact qlt (And.right (And.right (by assumption))) | exact qgt (And.right (And.right (by assumption))) | exact qne (And.right (And.right (by assumption))) | exact qen (And.right (And.right (by assumption))) | exact rlt (And.right (And.right (by assumption))) | exact rgt (And.right (And.right (by assumption))) | exact rne (And.right (And.right (by assumption))) | exact ren (And.right (And.right (by assumption))) | exact qlt (And.right (And.right (And.right (by assumption)))) | exact qgt (And.right (And.right (And.right (by assumption)))) | exact qne (And.right (And.right (And.right (by assumption)))) | exact qen (And.right (And.right (And.right (by assumption)))) | exact rlt (And.right (And.right (And.right (by assumption)))) | exact rgt (And.right (And.right (And.right (by assumption)))) | exact rne (And.right (And.right (And.right (by assumption)))) | exact ren (And.right (And.right (And.right (by assumption)))) | exact qlt (And.right (And.right (And.right (And.right (by assumption))))) | exact qgt (And.right (And.right (And.right (And.right (by assumption))))) | exact qne (And.right (And.right (And.right (And.right (by assumption))))) | exact qen (And.right (And.right (And.right (And.right (by assumption))))) | exact rlt (And.right (And.right (And.right (And.right (by assumption))))) | exact rgt (And.right (And.right (And.right (And.right (by assumption))))) | exact rne (And.right (And.right (And.right (And.right (by assumption))))) | exact ren (And.right (And.right (And.right (And.right (by assumption))))) | exact qlt (And.right (And.right (And.right (And.right (And.right (by assumption)))))) | exact qgt (And.right (And.right (And.right (And.right (And.right (by assumption)))))) | exact qne (And.right (And.right (And.right (And.right (And.right (by assumption)))))) | exact qen (And.right (And.right (And.right (And.right (And.right (by assumption)))))) | exact rlt (And.right (And.right (And.right (And.right (And.right (by assumption)))))) | exact rgt (And.right (And.right (And.right (And.right (And.right (by assumption)))))) | exact rne (And.right (And.right (And.right (And.right (And.right (by assumption)))))) | exact ren (And.right (And.right (And.right (And.right (And.right (by assumption)))))) | exact qlt (And.right (And.right (And.right (And.right (And.right (And.right (by assumption))))))) | exact qgt (And.right (And.right (And.right (And.right (And.right (And.right (by assumption))))))) | exact qne (And.right (And.right (And.right (And.right (And.right (And.right (by assumption))))))) | exact qen (And.right (And.right (And.right (And.right (And.right (And.right (by assumption))))))) | exact rlt (And.right (And.right (And.right (And.right (And.right (And.right (by assumption))))))) | exact rgt (And.right (And.right (And.right (And.right (And.right (And.right (by assumption))))))) | exact rne (And.right (And.right (And.right (And.right (And.right (And.right (by assumption))))))) | exact ren (And.right (And.right (And.right (And.right (And.right (And.right (by assumption))))))) | exact qlt (And.right (And.right (And.right (And.right (And.right (And.right (And.right (by assumption)))))))) | exact qgt (And.right (And.right (And.right (And.right (And.right (And.right (And.right (by assumption)))))))) | exact qne (And.right (And.right (And.right (And.right (And.right (And.right (And.right (by assumption)))))))) | exact qen (And.right (And.right (And.right (And.right (And.right (And.right (And.right (by assumption)))))))) | exact rlt (And.right (And.right (And.right (And.right (And.right (And.right (And.right (by assumption)))))))) | exact rgt (And.right (And.right (And.right (And.right (And.right (And.right (And.right (by assumption)))))))) | exact rne (And.right (And.right (And.right (And.right (And.right (And.right (And.right (by assumption)))))))) | exact ren (And.right (And.right (And.right (And.right (And.right (And.right (And.right (by assumption)))))))) | exact qlt (And.right (And.right (And.right (And.right (And.right (And.right (And.right (And.right (by assumption))))))))) | exact qgt (And.right (And.right (And.right (And.right (And.right (And.right (And.right (And.right (by assumption))))))))) | exact qne (And.right (And.right (And.right (And.right (And.right (And.right (And.right (And.right (by assumption))))))))) | exact qen (And.right (And.right (And.right (And.right (And.right (And.right (And.right (And.right (by assumption))))))))) | exact rlt (And.right (And.right (And.right (And.right (And.right (And.right (And.right (And.right (by assumption))))))))) | exact rgt (And.right (And.right (And.right (And.right (And.right (And.right (And.right (And.right (by assumption))))))))) | exact rne (And.right (And.right (And.right (And.right (And.right (And.right (And.right (And.right (by assumption))))))))) | exact ren (And.right (And.right (And.right (And.right (And.right (And.right (And.right (And.right (by assumption))))))))) | exact qlt (And.right (And.right (And.right (And.right (And.right (And.right (And.right (And.right (And.right (by assumption)))))))))) | exact qgt (And.right (And.right (And.right (And.right (And.right (And.right (And.right (And.right (And.right (by assumption)))))))))) | exact qne (And.right (And.right (And.right (And.right (And.right (And.right (And.right (And.right (And.right (by assumption)))))))))) | exact qen (And.right (And.right (And.right (And.right (And.right (And.right (And.right (And.right (And.right (by assumption)))))))))) | exact rlt (And.right (And.right (And.right (And.right (And.right (And.right (And.right (And.right (And.right (by assumption)))))))))) | exact rgt (And.right (And.right (And.right (And.right (And.right (And.right (And.right (And.right (And.right (by assumption)))))))))) | exact rne (And.right (And.right (And.right (And.right (And.right (And.right (And.right (And.right (And.right (by assumption)))))))))) | exact ren (And.right (And.right (And.right (And.right (And.right (And.right (And.right (And.right (And.right (by assumption)))))))))) | exact qlt (And.right (And.right (And.right (And.right (And.right (And.right (And.right (And.right (And.right (And.right (by assumption))))))))))) | exact qgt (And.right (And.right (And.right (And.right (And.right (And.right (And.right (And.right (And.right (And.right (by assumption))))))))))) | exact qne (And.right (And.right (And.right (And.right (And.right (And.right (And.right (And.right (And.right (And.right (by assumption))))))))))) | exact qen (And.right (And.right (And.right (And.right (And.right (And.right (And.right (And.right (And.right (And.right (by assumption))))))))))) | exact rlt (And.right (And.right (And.right (And.right (And.right (And.right (And.right (And.right (And.right (And.right (by assumption))))))))))) | exact rgt (And.right (And.right (And.right (And.right (And.right (And.right (And.right (And.right (And.right (And.right (by assumption))))))))))) | exact rne (And.right (And.right (And.right (And.right (And.right (And.right (And.right (And.right (And.right (And.right (by assumption))))))))))) | exact ren (And.right (And.right (And.right (And.right (And.right (And.right (And.right (And.right (And.right (And.right (by assumption))))))))))) | exact qlt (And.right (And.right (And.right (And.right (And.right (And.right (And.right (And.right (And.right (And.right (And.right (by assumption)))))))))))) | exact qgt (And.right (And.right (And.right (And.right (And.right (And.right (And.right (And.right (And.right (And.right (And.right (by assumption)))))))))))) | exact qne (And.right (And.right (And.right (And.right (And.right (And.right (And.right (And.right (And.right (And.right (And.right (by assumption)))))))))))) | exact qen (And.right (And.right (And.right (And.right (And.right (And.right (And.right (And.right (And.right (And.right (And.right (by assumption)))))))))))) | exact rlt (And.right (And.right (And.right (And.right (And.right (And.right (And.right (And.right (And.right (And.right (And.right (by assumption)))))))))))) | exact rgt (And.right (And.right (And.right (And.right (And.right (And.right (And.right (And.right (And.right (And.right (And.right (by assumption)))))))))))) | exact rne (And.right (And.right (And.right (And.right (And.right (And.right (And.right (And.right (And.right (And.right (And.right (by assumption)))))))))))) | exact ren (And.right (And.right (And.right (And.right (And.right (And.right (And.right (And.right (And.right (And.right (And.right (by assumption)))))))))))) | exact qlt (And.right (And.right (And.right (And.right (And.right (And.right (And.right (And.right (And.right (And.right (And.right (And.right (by assumption))))))))))))) | exact qgt (And.right (And.right (And.right (And.right (And.right (And.right (And.right (And.right (And.right (And.right (And.right (And.right (by assumption))))))))))))) | exact qne (And.right (And.right (And.right (And.right (And.right (And.right (And.right (And.right (And.right (And.right (And.right (And.right (by assumption))))))))))))) | exact qen (And.right (And.right (And.right (And.right (And.right (And.right (And.right (And.right (And.right (And.right (And.right (And.right (by assumption))))))))))))) | exact rlt (And.right (And.right (And.right (And.right (And.right (And.right (And.right (And.right (And.right (And.right (And.right (And.right (by assumption))))))))))))) | exact rgt (And.right (And.right (And.right (And.right (And.right (And.right (And.right (And.right (And.right (And.right (And.right (And.right (by assumption))))))))))))) | exact rne (And.right (And.right (And.right (And.right (And.right (And.right (And.right (And.right (And.right (And.right (And.right (And.right (by assumption))))))))))))) | exact ren (And.right (And.right (And.right (And.right (And.right (And.right (And.right (And.right (And.right (And.right (And.right (And.right (by assumption))))))))))))) | exact qlt (And.right (And.right (And.right (And.right (And.right (And.right (And.right (And.right (And.right (And.right (And.right (And.right (And.right (by assumption)))))))))))))) | exact qgt (And.right (And.right (And.right (And.right (And.right (And.right (And.right (And.right (And.right (And.right (And.right (And.right (And.right (by assumption)))))))))))))) | exact qne (And.right (And.right (And.right (And.right (And.right (And.right (And.right (And.right (And.right (And.right (And.right (And.right (And.right (by assumption)))))))))))))) | exact qen (And.right (And.right (And.right (And.right (And.right (And.right (And.right (And.right (And.right (And.right (And.right (And.right (And.right (by assumption)))))))))))))) | exact rlt (And.right (And.right (And.right (And.right (And.right (And.right (And.right (And.right (And.right (And.right (And.right (And.right (And.right (by assumption)))))))))))))) | exact rgt (And.right (And.right (And.right (And.right (And.right (And.right (And.right (And.right (And.right (And.right (And.right (And.right (And.right (by assumption)))))))))))))) | exact rne (And.right (And.right (And.right (And.right (And.right (And.right (And.right (And.right (And.right (And.right (And.right (And.right (And.right (by assumption)))))))))))))) | exact ren (And.right (And.right (And.right (And.right (And.right (And.right (And.right (And.right (And.right (And.right (And.right (And.right (And.right (by assumption)))))))))))))) | exact qlt (And.right (And.right (And.right (And.right (And.right (And.right (And.right (And.right (And.right (And.right (And.right (And.right (And.right (And.right (by assumption))))))))))))))) | exact qgt (And.right (And.right (And.right (And.right (And.right (And.right (And.right (And.right (And.right (And.right (And.right (And.right (And.right (And.right (by assumption))))))))))))))) | exact qne (And.right (And.right (And.right (And.right (And.right (And.right (And.right (And.right (And.right (And.right (And.right (And.right (And.right (And.right (by assumption))))))))))))))) | exact qen (And.right (And.right (And.right (And.right (And.right (And.right (And.right (And.right (And.right (And.right (And.right (And.right (And.right (And.right (by assumption))))))))))))))) | exact rlt (And.right (And.right (And.right (And.right (And.right (And.right (And.right (And.right (And.right (And.right (And.right (And.right (And.right (And.right (by assumption))))))))))))))) | exact rgt (And.right (And.right (And.right (And.right (And.right (And.right (And.right (And.right (And.right (And.right (And.right (And.right (And.right (And.right (by assumption))))))))))))))) | exact rne (And.right (And.right (And.right (And.right (And.right (And.right (And.right (And.right (And.right (And.right (And.right (And.right (And.right (And.right (by assumption))))))))))))))) | exact ren (And.right (And.right (And.right (And.right (And.right (And.right (And.right (And.right (And.right (And.right (And.right (And.right (And.right (And.right (by assumption))))))))))))))) | exact qlt (And.right (And.right (And.right (And.right (And.right (And.right (And.right (And.right (And.right (And.right (And.right (And.right (And.right (And.right (And.right (by assumption)))))))))))))))) | exact qgt (And.right (And.right (And.right (And.right (And.right (And.right (And.right (And.right (And.right (And.right (And.right (And.right (And.right (And.right (And.right (by assumption)))))))))))))))) | exact qne (And.right (And.right (And.right (And.right (And.right (And.right (And.right (And.right (And.right (And.right (And.right (And.right (And.right (And.right (And.right (by assumption)))))))))))))))) | exact qen (And.right (And.right (And.right (And.right (And.right (And.right (And.right (And.right (And.right (And.right (And.right (And.right (And.right (And.right (And.right (by assumption)))))))))))))))) | exact rlt (And.right (And.right (And.right (And.right (And.right (And.right (And.right (And.right (And.right (And.right (And.right (And.right (And.right (And.right (And.right (by assumption)))))))))))))))) | exact rgt (And.right (And.right (And.right (And.right (And.right (And.right (And.right (And.right (And.right (And.right (And.right (And.right (And.right (And.right (And.right (by assumption)))))))))))))))) | exact rne (And.right (And.right (And.right (And.right (And.right (And.right (And.right (And.right (And.right (And.right (And.right (And.right (And.right (And.right (And.right (by assumption)))))))))))))))) | exact ren (And.right (And.right (And.right (And.right (And.right (And.right (And.right (And.right (And.right (And.right (And.right (And.right (And.right (And.right (And.right (by assumption))))))))))))))))))
  trivial
theorem layW02n_2 : True := by
  k_with "mine texts" => ((try dsimp only [← sx0, ← sx1, ← sx2, ← sx3, ← sx4, ← sx5, ← sx6, ← sx7, ← sx8, ← sx9, ← sx10, ← sx11, ← sx12, ← sx13, ← sx14, ← sx15, ← sx16, ← sx17, ← sx18, ← sx19, ← sx20, ← sx21, ← sx22, ← sx23, ← sx24, ← sx25, ← sx26, ← sx27, ← sx28, ← sx29, ← sx30, ← sx31, ← sx32, ← sx33, ← sx34, ← sx35, ← sx36, ← sx37, ← sx38, ← sx39, ← sx40, ← sx41, ← sx42, ← sx43, ← sx44, ← sx45, ← sx46, ← sx47, ← sx48, ← sx49, ← sx50, ← sx51, ← sx52, ← sx53, ← sx54, ← sx55, ← sx56, ← sx57, ← sx58, ← sx59, ← sx60, ← sx61, ← sx62, ← sx63, ← sx64, ← sx65, ← sx66, ← sx67, ← sx68, ← sx69, ← sx70, ← sx71, ← sx72, ← sx73, ← sx74, ← sx75, ← sx76, ← sx77, ← sx78, ← sx79, ← sx80, ← sx81, ← sx82, ← sx83, ← sx84, ← sx85, ← sx86, ← sx87, ← sx88, ← sx89, ← sx90, ← sx91, ← sx92]))
  k_with "mine drop" => (first | (refine' Drop.head ?a; (case a => k_all)) | (refine' Drop.tail ?a ?b; (case a => k_ne); (case b => walk_at "mine drop")))
  k_with "setAttr ref" => ((k_here; k_dflt (first | (refine' exc_set0 ?k1 ?k2 ?k3 ?k4 ?k5 ?k6 ?k7 ?k8 ?k9 ?_; (case k1 => k_asm); (case k2 => k_asm); (case k3 => k_asm); (case k4 => k_mem); (case k5 => k_is); (case k6 => kernel_rfl); (case k7 => k_is); (case k8 => k_is); (case k9 => intro zqd; k_upd); k_whole; intro zqdp zqhp zqFp zqNp zql1; (try k_lt zql1)) | (refine' exc_set_args ?k1 ?k2 ?k3 ?k4 ?k5 ?k6 ?k7 ?k8 ?k9 ?k10 ?_; (case k1 => k_asm); (case k2 => k_asm); (case k3 => k_asm); (case k4 => first | (refine' InstAt.of_exc ?N ?h1 ?h2; (case N => k_asm); (case h1 => k_mem); (case h2 => k_mem)) | (refine' InstAt.of_exc0 ?N ?h1; (case N => k_asm); (case h1 => k_mem))); (case k5 => exact isTup_of (by k_asm) (by k_mem)); (case k6 => k_is); (case k7 => kernel_rfl); (case k8 => k_is); (case k9 => k_is); (case k10 => k_upd); k_whole; intro zqhp zqFp zqNp) | (refine' exc_set ?k1 ?k2 ?k3 ?k4 ?k5 ?k6 ?k7 ?k8 ?k9 ?k10 ?k11 ?k12 ?_; (case k1 => k_asm); (case k2 => k_asm); (case k3 => k_asm); (case k4 => first | (refine' InstAt.of_exc ?N ?h1 ?h2; (case N => k_asm); (case h1 => k_mem); (case h2 => k_mem)) | (refine' InstAt.of_exc0 ?N ?h1; (case N => k_asm); (case h1 => k_mem))); (case k5 => k_is); (case k6 => kernel_rfl); (case k7 => k_is); (case k8 => k_is); (case k9 => k_get); (case k10 => k_put); (case k11 => k_upd); (case k12 => exact Nat.le_of_ble_eq_true rfl); k_whole; intro zqhp zqFp zqNp))))
  k_with "call builtin:Exception.__init__" => ((k_here; k_dflt (refine' exc_init_call ?k1 ?k2 ?k3 ?k4 ?k5 ?k6 ?_; (case k1 => k_asm); (case k2 => k_asm); (case k3 => k_asm); (case k4 => first | (refine' InstAt.of_exc ?N ?h1 ?h2; (case N => k_asm); (case h1 => k_mem); (case h2 => k_mem)) | (refine' InstAt.of_exc0 ?N ?h1; (case N => k_asm); (case h1 => k_mem))); (case k5 => k_is); (case k6 => intro zqt; k_upd); k_whole; intro zqtp zqhp zqFp zqNp zql1; (try k_lt zql1))))
  k_with "call builtin:repr" => ((k_here; k_dflt (refine' repr_use ?k1 ?k2 ?k3 ?k4 ?k5 ?k6 ?k7 ?_; (case k1 => assumption); (case k2 => k_asm); (case k3 => k_asm); (case k4 => exact rfl); (case k5 => exact rfl); (case k6 => exact Nat.le_of_ble_eq_true rfl); (case k7 => exact Nat.le_of_ble_eq_true rfl); k_whole; intro zqhp zqup zqtkp zqFp zqNp)))
  k_with "BackIn" => ((k_dflt (refine' back_ ?k1 ?k2 ?k3 ?_; (case k1 => k_asm); (case k2 => k_asm); (case k3 => walk_at "mine drop"); k_whole; intro zqFp zqNp; (try dsimp only))))
  k_with "call ref" => ((k_here; k_dflt (refine wpAny_call ?_; refine' enter_in ?k1 ?k2 ?k3 ?k4 ?k5 ?k6 ?k7 ?k8 ?kB ?c2 ?c3 ?c4 ?c5 ?_; (case k1 => k_asm); (case k2 => k_asm); (case k3 => k_asm); (case k4 => exact Top.nolimit (by assumption)); (case k5 => k_is); (case k6 => k_is); (case k7 => exact Nat.le_of_ble_eq_true rfl); (case k8 => first | ((with_reducible show BindsTo _ _ ⟨[_], []⟩ _); first | exact BindsTo.of_eq (binds := [(_, _)]) rfl | exact binds_K (binds := [(_, _)]) (by k_in) rfl (by k_is) rfl rfl rfl) | ((with_reducible show BindsTo _ _ ⟨[_, _], []⟩ _); first | exact BindsTo.of_eq (binds := [(_, _), (_, _)]) rfl | exact binds_K (binds := [(_, _), (_, _)]) (by k_in) rfl (by k_is) rfl rfl rfl) | ((with_reducible show BindsTo _ _ ⟨[_, _, _], []⟩ _); first | exact BindsTo.of_eq (binds := [(_, _), (_, _), (_, _)]) rfl | exact binds_K (binds := [(_, _), (_, _), (_, _)]) (by k_in) rfl (by k_is) rfl rfl rfl) | ((with_reducible show BindsTo _ _ ⟨[_, _, _, _], []⟩ _); first | exact BindsTo.of_eq (binds := [(_, _), (_, _), (_, _), (_, _)]) rfl | exact binds_K (binds := [(_, _), (_, _), (_, _), (_, _)]) (by k_in) rfl (by k_is) rfl rfl rfl) | ((with_reducible show BindsTo _ _ ⟨[_, _, _, _, _], []⟩ _); first | exact BindsTo.of_eq (binds := [(_, _), (_, _), (_, _), (_, _), (_, _)]) rfl | exact binds_K (binds := [(_, _), (_, _), (_, _), (_, _), (_, _)]) (by k_in) rfl (by k_is) rfl rfl rfl)); (case c5 => decide); (case kB => exact locs rfl); (case c2 => exact rfl); (case c3 => exact rfl); (case c4 => exact rfl); k_whole; intro zqoLp zqLp zqhp zqtkp zqFp zqNp zql1 zqn1; (try k_lt zql1); (try (replace zqn1 := allNe_of zqn1; simp only [AllNe, and_true] at zqn1)); (try dsimp only); walk_at "mine texts")))
  k_with "call builtin:str.join" => ((k_here; (with_reducible show wpAny _ _ (call (Value.builtin "str.join") [Value.str _ _, Value.ref _]) _ _ _); k_dflt (refine join_listC (by is_list) (by repeat constructor) (by decide) (by (simp only [List.map_cons, List.map_nil, List.sum_cons, List.sum_nil, List.length_cons, List.length_nil]; omega)) ?_); intro zqtp zqkp))
  k_with "getMethod type:Exception" => ((k_here; refine' method_type ?F ?X ?m (by decide +kernel) ?e ?h ?_; (case F => k_asm); (case X => k_asm); (case m => exact meta_Exception); (case e => k_dflt k_is); (case h => k_handed)))
  k_with "compareOp IsNot" => ((k_here; k_dflt (refine isNot_none (by assumption) ?_)))
  k_with "call builtin:str.format" => ((k_here; k_dflt (refine' line_use ?k1 ?k2 ?k3 ?k4 ?k5 ?k6 ?k7 ?_; (case k1 => assumption); (case k2 => k_asm); (case k3 => k_asm); (case k4 => exact rfl); (case k5 => exact rfl); (case k6 => exact Nat.le_of_ble_eq_true rfl); (case k7 => exact Nat.le_of_ble_eq_true rfl); k_whole; intro zqhp zqup zqtkp zqFp zqNp)))
  k_with "call builtin:str.format" => ((k_here; (with_reducible show wpAny _ _ (call (Value.builtin "str.format") [Value.str _ _, _, _, _, _]) _ _ _); k_dflt (refine' fmt_use ?k1 ?k2 ?k3 ?k4 ?k5 ?_; (case k1 => k_asm); (case k2 => k_asm); (case k3 => exact ⟨rfl, rfl, Nat.le_of_ble_eq_true rfl, Nat.le_of_ble_eq_true rfl⟩); (case k4 => exact args_5 _ _ _ _ _); (case k5 => walk_at "mine fmt")); k_whole; intro zqhp zqup zqtkp zqFp zqNp))
  k_with "pyReprObj" => ((k_here; k_dflt (refine' reprObj_use ?k1 ?k2 ?k3 ?k4 ?k5 ?k6 ?k7 ?_; (case k1 => assumption); (case k2 => k_asm); (case k3 => k_asm); (case k4 => exact rfl); (case k5 => exact rfl); (case k6 => exact Nat.le_of_ble_eq_true rfl); (case k7 => exact Nat.le_of_ble_eq_true rfl); k_whole; intro zqhp zqup zqtkp zqFp zqNp)))
  trivial
theorem haltw_ {P : Prop} (h : Halt P) : P := h
theorem layW02n_3 : True := by
  k_with "call ref" => ((refine haltw_ ?_))
  k_with "call builtin:isinstance" => ((k_here; refine haltw_ ?_))
  k_with "call builtin:str.join" => ((refine haltw_ ?_))
  k_with "call builtin:len" => ((k_here; refine haltw_ ?_))
  k_with "CompSrc" => ((with_reducible refine haltw_ ?_))
  k_with "SrcT" => ((with_reducible refine haltw_ ?_))
  k_with "SrcD" => ((with_reducible refine haltw_ ?_))
  k_with "subscriptTail" => ((k_here; refine haltw_ ?_))
  trivial
theorem wr_none : ∀ {p : Program} {loose : List Str} {mean : ExcName → Option Value} {mg mb : Str → Option Value} (w : World) (s : Shared) (x y : Nat) (hx : x ≤ 650) (hy : y ≤ 2400) 
    (Q E : Value → Shared → Prop) (KX : (hz.heap_129 w.params).In s.heap) (T : Top p loose mean mg mb s.heap)
    (hQ : ∀ h' tk (u : Tok), Grow s.heap h' → Q (.str (Str.ofString "None") u) { s with heap := h', toks := tk }),
    wpAny (model PySem.Challenge.rw_dm0028_02.prog w) (AD x y) (call (.ref 87) [.none]) Q E s := by
  w_top off
  k_fill
  intro p loose mean mg mb w s x y hx hy  Q E KX T hQ
  obtain ⟨hh, g, dr, tk, os⟩ := s
  dsimp only at KX T hQ
  w_strict (
  refine wpAny_call ?_
  k_dflt (refine' enter_newC (h₀ := hh) (binds := [("value", .none)]) ?k1 ?k2 KX T.nolimit ?k5 ?k6 ?k7 ?k8 ?kB ?kD ?_ ?c2 ?c3 ?c4; (case k5 => k_is); (case k6 => k_is); (case k7 => exact room_ hx); (case k8 => first | exact BindsTo.of_eq rfl | exact binds_K KX rfl (by k_is) rfl rfl rfl); (case kB => exact rfl); (case kD => decide +kernel); (case c2 => exact rfl); (case c3 => exact rfl); (case c4 => exact rfl); (case k1 => exact fun _ _ e => e); (case k2 => exact Nat.le_refl _))
  intro L' h' tk' cells' F' N' Y'
  k_cells Y'
  (try dsimp only)
  walk_at "mine texts"
  k_steps
  exact hQ _ _ _ (Fr.keep (by k_asm)))
end
section
theorem layW02b_1 : True := by
  k_with_none
  k_with "ne" => (with_reducible (first | exact ns1 | exact ns2 | exact qlt (by assumption) | exact qgt (by assumption) | exact qne (by assumption) | exact qen (by assumption) | exact rlt (by assumption) | exact rgt (by assumption) | exact rne (by assumption) | exact ren (by assumption) | exact qlt (And.right (by assumption)) | exact qgt (And.right (by assumption)) | exact qne (And.right (by assumption)) | exact qen (And.right (by assumption)) | exact rlt (And.right (by assumption)) | exact rgt (And.right (by assumption)) | exact rne (And.right (by assumption)) | exact ren (And.right (by assumption)) | exact qlt (And.right (And.right (by assumption))) | exact qgt (And.right (And.right (by assumption))) | exact qne (And.right (And.right (by assumption))) | exact qen (And.right (And.right (by assumption))) | exact rlt (And.right (And.right (by assumption))) | exact rgt (And.right (And.right (by assumption))) | exact rne (And.right (And.right (by assumption))) | exact ren (And.right (And.right (by assumption))) | exact qlt (And.right (And.right (And.right (by assumption)))) | exact qgt (And.right (And.right (And.right (by assumption)))) | exact qne (And.right (And.right (And.right (by assumption)))) | exact qen (And.right (And.right (And.right (by assumption)))) | exact rlt (And.right (And.right (And.right (by assumption)))) | exact rgt (And.right (And.right (And.right (by assumption)))) | exact rne (And.right (And.right (And.right (by assumption)))) | exact ren (And.right (And.right (And.right (by assumption)))) | exact qlt (And.right (And.right (And.right (And.right (by assumption))))) | exact qgt (And.right (And.right (And.right (And.right (by assumption))))) | exact qne (And.right (And.right (And.right (And.right (by assumption))))) | exact qen (And.right (And.right (And.right (And.right (by assumption))))) | exact rlt (And.right (And.right (And.right (And.right (by assumption))))) | exact rgt (And.right (And.right (And.right (And.right (by assumption))))) | exact rne (And.right (And.right (And.right (And.right (by assumption))))) | exact ren (And.right (And.right (And.right (And.right (by assumption))))) | exact qlt (And.right (And.right (And.right (And.right (And.right (by assumption)))))) | exact qgt (And.right (And.right (And.right (And.right (And.right (by assumption)))))) | exact qne (And.right (And.right (And.right (And.right (And.right (by assumption)))))) | exact qen (And.right (And.right (And.right (And.right (And.right (by assumption)))))) | exact rlt (And.right (And.right (And.right (And.right (And.right (by assumption)))))) | exact rgt (And.right (And.right (And.right (And.right (And.right (by assumption)))))) | exact rne (And.right (And.right (And.right (And.right (And.right (by assumption)))))) | exact ren (And.right (And.right (And.right (And.right (And.right (by assumption)))))) | exact qlt (And.right (And.right (And.right (And.right (And.right (And.right (by assumption))))))) | exact qgt (And.right (And.right (And.right (And.right (And.right (And.right (by assumption))))))) | exact qne (And.right (And.right (And.right (And.right (And.right (And.right (by assumption))))))) | exact qen (And.right (And.right (And.right (And.right (And.right (And.right (by assumption))))))) | exact rlt (And.right (And.right (And.right (And.right (And.right (And.right (by assumption))))))) | exact rgt (And.right (And.right (And.right (And.right (And.right (And.right (by assumption))))))) | exact rne (And.right (And.right (And.right (And.right (And.right (And.right (by assumption))))))) | exact ren (And.right (And.right (And.right (And.right (And.right (And.right (by assumption))))))) | exact qlt (And.right (And.right (And.right (And.right (And.right (And.right (And.right (by assumption)))))))) | exact qgt (And.right (And.right (And.right (And.right (And.right (And.right (And.right (by assumption)))))))) | exact qne (And.right (And.right (And.right (And.right (And.right (And.right (And.right (by assumption)))))))) | exact qen (And.right (And.right (And.right (And.right (And.right (And.right (And.right (by assumption)))))))) | exact rlt (And.right (And.right (And.right (And.right (And.right (And.right (And.right (by assumption)))))))) | exact rgt (And.right (And.right (And.right (And.right (And.right (And.right (And.right (by assumption)))))))) | exact rne (And.right (And.right (And.right (And.right (And.right (And.right (And.right (by assumption)))))))) | exact ren (And.right (And.right (And.right (And.right (And.right (And.right (And.right (by assumption)))))))) | exact qlt (And.right (And.right (And.right (And.right (And.right (And.right (And.right (And.right (by assumption))))))))) | exact qgt (And.right (And.right (And.right (And.right (And.right (And.right (And.right (And.right (by assumption))))))))) | exact qne (And.right (And.right (And.right (And.right (And.right (And.right (And.right (And.right (by assumption))))))))) | exact qen (And.right (And.right (And.right (And.right (And.right (And.right (And.right (And.right (by assumption))))))))) | exact rlt (And.right (And.right (And.right (And.right (And.right (And.right (And.right (And.right (by assumption))))))))) | exact rgt (And.right (And.right (And.right (And.right (And.right (And.right (And.right (And.right (by assumption))))))))) | exact rne (And.right (And.right (And.right (And.right (And.right (And.right (And.right (And.right (by assumption))))))))) | exact ren (And.right (And.right (And.right (And.right (And.right (And.right (And.right (And.right (by assumption))))))))) | exact qlt (And.right (And.right (And.right (And.right (And.right (And.right (And.right (And.right (And.right (by assumption)))))))))) | exact qgt (And.right (And.right (And.right (And.right (And.right (And.right (And.right (And.right (And.right (by assumption)))))))))) | exact qne (And.right (And.right (And.right (And.right (And.right (And.right (And.right (And.right (And.right (by assumption)))))))))) | exact qen (And.right (And.right (And.right (And.right (And.right (And.right (And.right (And.right (And.right (by assumption)))))))))) | exact rlt (And.right (And.right (And.right (And.right (And.right (And.right (And.right (And.right (And.right (by assumption)))))))))) | exact rgt (And.right (And.right (And.right (And.right (And.right (And.right (And.right (And.right (And.right (by assumption)))))))))) | exact rne (And.right (And.right (And.right (And.right (And.right (And.right (And.right (And.right (And.right (by assumption)))))))))) | exact ren (And.right (And.right (And.right (And.right (And.right (And.right (And.right (And.right (And.right (by assumption)))))))))) | exact qlt (And.right (And.right (And.right (And.right (And.right (And.right (And.right (And.right (And.right (And.right (by assumption))))))))))) | exact qgt (And.right (And.right (And.right (And.right (And.right (And.right (And.right (And.right (And.right (And.right (by assumption))))))))))) | exact qne (And.right (And.right (And.right (And.right (And.right (And.right (And.right (And.right (And.right (And.right (by assumption))))))))))) | exact qen (And.right (And.right (And.right (And.right (And.right (And.right (And.right (And.right (And.right (And.right (by assumption))))))))))) | exact rlt (And.right (And.right (And.right (And.right (And.right (And.right (And.right (And.right (And.right (And.right (by assumption))))))))))) | exact rgt (And.right (And.right (And.right (And.right (And.right (And.right (And.right (And.right (And.right (And.right (by assumption))))))))))) | exact rne (And.right (And.right (And.right (And.right (And.right (And.right (And.right (And.right (And.right (And.right (by assumption))))))))))) | exact ren (And.right (And.right (And.right (And.right (And.right (And.right (And.right (And.right (And.right (And.right (by assumption))))))))))) | exact qlt (And.right (And.right (And.right (And.right (And.right (And.right (And.right (And.right (And.right (And.right (And.right (by assumption)))))))))))) | exact qgt (And.right (And.right (And.right (And.right (And.right (And.right (And.right (And.right (And.right (And.right (And.right (by assumption)))))))))))) | exact qne (And.right (And.right (And.right (And.right (And.right (And.right (And.right (And.right (And.right (And.right (And.right (by assumption)))))))))))) | exact qen (And.right (And.right (And.right (And.right (And.right (And.right (And.right (And.right (And.right (And.right (And.right (by assumption)))))))))))) | exact rlt (And.right (And.right (And.right (And.right (And.right (And.right (And.right (And.right (And.right (And.right (And.right (by assumption)))))))))))) | exact rgt (And.right (And.right (And.right (And.right (And.right (And.right (And.right (And.right (And.right (And.right (And.right (by assumption)))))))))))) | exact rne (And.right (And.right (And.right (And.right (And.right (And.right (And.right (And.right (And.right (And.right (And.right (by assumption)))))))))))) | exact ren (And.right (And.right (And.right (And.right (And.right (And.right (And.right (And.right (And.right (And.right (And.right (by assumption)))))))))))) | exact qlt (And.right (And.right (And.right (And.right (And.right (And.right (And.right (And.right (And.right (And.right (And.right (And.right (by assumption))))))))))))) | exact qgt (And.right (And.right (And.right (And.right (And.right (And.right (And.right (And.right (And.right (And.right (And.right (And.right (by assumption))))))))))))) | exact qne (And.right (And.right (And.right (And.right (And.right (And.right (And.right (And.right (And.right (And.right (And.right (And.right (by assumption))))))))))))) | exact qen (And.right (And.right (And.right (And.right (And.right (And.right (And.right (And.right (And.right (And.right (And.right (And.right (by assumption))))))))))))) | exact rlt (And.right (And.right (And.right (And.right (And.right (And.right (And.right (And.right (And.right (And.right (And.right (And.right (by assumption))))))))))))) | exact rgt (And.right (And.right (And.right (And.right (And.right (And.right (And.right (And.right (And.right (And.right (And.right (And.right (by assumption))))))))))))) | exact rne (And.right (And.right (And.right (And.right (And.right (And.right (And.right (And.right (And.right (And.right (And.right (And.right (by assumption))))))))))))) | exact ren (And.right (And.right (And.right (And.right (And.right (And.right (And.right (And.right (And.right (And.right (And.right (And.right (by assumption))))))))))))) | exact qlt (And.right (And.right (And.right (And.right (And.right (And.right (And.right (And.right (And.right (And.right (And.right (And.right (And.right (by assumption)))))))))))))) | exact qgt (And.right (And.right (And.right (And.right (And.right (And.right (And.right (And.right (And.right (And.right (And.right (And.right (And.right (by assumption)))))))))))))) | exact qne (And.right (And.right (And.right (And.right (And.right (And.right (And.right (And.right (And.right (And.right (And.right (And.right (And.right (by assumption)))))))))))))) | exact qen (And.right (And.right (And.right (And.right (And.right (And.right (And.right (And.right (And.right (And.right (And.right (And.right (And.right (by assumption)))))))))))))) | exact rlt (And.right (And.right (And.right (And.right (And.right (And.right (And.right (And.right (And.right (And.right (And.right (And.right (And.right (by assumption)))))))))))))) | exact rgt (And.right (And.right (And.right (And.right (And.right (And.right (And.right (And.right (And.right (And.right (And.right (And.right (And.right (by assumption)))))))))))))) | exact rne (And.right (And.right (And.right (And.right (And.right (And.right (And.right (And.right (And.right (And.right (And.right (And.right (And.right (by assumption)))))))))))))) | exact ren (And.right (And.right (And.right (And.right (And.right (And.right (And.right (And.right (And.right (And.right (And.right (And.right (And.right (by assumption)))))))))))))) | exact qlt (And.right (And.right (And.right (And.right (And.right (And.right (And.right (And.right (And.right (And.right (And.right (And.right (And.right (And.right (by assumption))))))))))))))) | exact qgt (And.right (And.right (And.right (And.right (And.right (And.right (And.right (And.right (And.right (And.right (And.right (And.right (And.right (And.right (by assumption))))))))))))))) | exact qne (And.right (And.right (And.right (And.right (And.right (And.right (And.right (And.right (And.right (And.right (And.right (And.right (And.right (And.right (by assumption))))))))))))))) | exact qen (And.right (And.right (And.right (And.right (And.right (And.right (And.right (And.right (And.right (And.right (And.right (And.right (And.right (And.right (by assumption))))))))))))))) | exact rlt (And.right (And.right (And.right (And.right (And.right (And.right (And.right (And.right (And.right (And.right (And.right (And.right (And.right (And.right (by assumption))))))))))))))) | exact rgt (And.right (And.right (And.right (And.right (And.right (And.right (And.right (And.right (And.right (And.right (And.right (And.right (And.right (And.right (by assumption))))))))))))))) | exact rne (And.right (And.right (And.right (And.right (And.right (And.right (And.right (And.right (And.right (And.right (And.right (And.right (And.right (And.right (by assumption))))))))))))))) | exact ren (And.right (And.right (And.right (And.right (And.right (And.right (And.right (And.right (And.right (And.right (And.right (And.right (And.right (And.right (by assumption))))))))))))))) | exact qlt (And.right (And.right (And.right (And.right (And.right (And.right (And.right (And.right (And.right (And.right (And.right (And.right (And.right (And.right (And.right (by assumption)))))))))))))))) | exact qgt (And.right (And.right (And.right (And.right (And.right (And.right (And.right (And.right (And.right (And.right (And.right (And.right (And.right (And.right (And.right (by assumption)))))))))))))))) | exact qne (And.right (And.right (And.right (And.right (And.right (And.right (And.right (And.right (And.right (And.right (And.right (And.right (And.right (And.right (And.right (by assumption)))))))))))))))) | exact qen (And.right (And.right (And.right (And.right (And.right (And.right (And.right (And.right (And.right (And.right (And.right (And.right (And.right (And.right (And.right (by assumption)))))))))))))))) | exact rlt (And.right (And.right (And.right (And.right (And.right (And.right (And.right (And.right (And.right (And.right (And.right (And.right (And.right (And.right (And.right (by assumption)))))))))))))))) | exact rgt (And.right (And.right (And.right (And.right (And.right (And.right (And.right (And.right (And.right (And.right (And.right (And.right (And.right (And.right (And.right (by assumption)))))))))))))))) | exact rne (And.right (And.right (And.right (And.right (And.right (And.right (And.right (And.right (And.right (And.right (And.right (And.right (And.right (And.right (And.right (by assumption)))))))))))))))) | exact ren (And.right (And.right (And.right (And.right (And.right (And.right (And.right (And.right (And.right (And.right (And.right (And.right (And.right (And.right (And.right (by assumption))))))))))))))))))
  trivial
theorem layW02b_2 : True := by
  k_with "mine texts" => ((try dsimp only [← sx0, ← sx1, ← sx2, ← sx3, ← sx4, ← sx5, ← sx6, ← sx7, ← sx8, ← sx9, ← sx10, ← sx11, ← sx12, ← sx13, ← sx14, ← sx15, ← sx16, ← sx17, ← sx18, ← sx19, ← sx20, ← sx21, ← sx22, ← sx23, ← sx24, ← sx25, ← sx26, ← sx27, ← sx28, ← sx29, ← sx30, ← sx31, ← sx32, ← sx33, ← sx34, ← sx35, ← sx36, ← sx37, ← sx38, ← sx39, ← sx40, ← sx41, ← sx42, ← sx43, ← sx44, ← sx45, ← sx46, ← sx47, ← sx48, ← sx49, ← sx50, ← sx51, ← sx52, ← sx53, ← sx54, ← sx55, ← sx56, ← sx57, ← sx58, ← sx59, ← sx60, ← sx61, ← sx62, ← sx63, ← sx64, ← sx65, ← sx66, ← sx67, ← sx68, ← sx69, ← sx70, ← sx71, ← sx72, ← sx73, ← sx74, ← sx75, ← sx76, ← sx77, ← sx78, ← sx79, ← sx80, ← sx81, ← sx82, ← sx83, ← sx84, ← sx85, ← sx86, ← sx87, ← sx88, ← sx89, ← sx90, ← sx91, ← sx92]))
  k_with "mine drop" => (first | (refine' Drop.head ?a; (case a => k_all)) | (refine' Drop.tail ?a ?b; (case a => k_ne); (case b => walk_at "mine drop")))
  k_with "setAttr ref" => ((k_here; k_dflt (first | (refine' exc_set0 ?k1 ?k2 ?k3 ?k4 ?k5 ?k6 ?k7 ?k8 ?k9 ?_; (case k1 => k_asm); (case k2 => k_asm); (case k3 => k_asm); (case k4 => k_mem); (case k5 => k_is); (case k6 => kernel_rfl); (case k7 => k_is); (case k8 => k_is); (case k9 => intro zqd; k_upd); k_whole; intro zqdp zqhp zqFp zqNp zql1; (try k_lt zql1)) | (refine' exc_set_args ?k1 ?k2 ?k3 ?k4 ?k5 ?k6 ?k7 ?k8 ?k9 ?k10 ?_; (case k1 => k_asm); (case k2 => k_asm); (case k3 => k_asm); (case k4 => first | (refine' InstAt.of_exc ?N ?h1 ?h2; (case N => k_asm); (case h1 => k_mem); (case h2 => k_mem)) | (refine' InstAt.of_exc0 ?N ?h1; (case N => k_asm); (case h1 => k_mem))); (case k5 => exact isTup_of (by k_asm) (by k_mem)); (case k6 => k_is); (case k7 => kernel_rfl); (case k8 => k_is); (case k9 => k_is); (case k10 => k_upd); k_whole; intro zqhp zqFp zqNp) | (refine' exc_set ?k1 ?k2 ?k3 ?k4 ?k5 ?k6 ?k7 ?k8 ?k9 ?k10 ?k11 ?k12 ?_; (case k1 => k_asm); (case k2 => k_asm); (case k3 => k_asm); (case k4 => first | (refine' InstAt.of_exc ?N ?h1 ?h2; (case N => k_asm); (case h1 => k_mem); (case h2 => k_mem)) | (refine' InstAt.of_exc0 ?N ?h1; (case N => k_asm); (case h1 => k_mem))); (case k5 => k_is); (case k6 => kernel_rfl); (case k7 => k_is); (case k8 => k_is); (case k9 => k_get); (case k10 => k_put); (case k11 => k_upd); (case k12 => exact Nat.le_of_ble_eq_true rfl); k_whole; intro zqhp zqFp zqNp))))
  k_with "call builtin:Exception.__init__" => ((k_here; k_dflt (refine' exc_init_call ?k1 ?k2 ?k3 ?k4 ?k5 ?k6 ?_; (case k1 => k_asm); (case k2 => k_asm); (case k3 => k_asm); (case k4 => first | (refine' InstAt.of_exc ?N ?h1 ?h2; (case N => k_asm); (case h1 => k_mem); (case h2 => k_mem)) | (refine' InstAt.of_exc0 ?N ?h1; (case N => k_asm); (case h1 => k_mem))); (case k5 => k_is); (case k6 => intro zqt; k_upd); k_whole; intro zqtp zqhp zqFp zqNp zql1; (try k_lt zql1))))
  k_with "call builtin:repr" => ((k_here; k_dflt (refine' repr_use ?k1 ?k2 ?k3 ?k4 ?k5 ?k6 ?k7 ?_; (case k1 => assumption); (case k2 => k_asm); (case k3 => k_asm); (case k4 => exact rfl); (case k5 => exact rfl); (case k6 => exact Nat.le_of_ble_eq_true rfl); (case k7 => exact Nat.le_of_ble_eq_true rfl); k_whole; intro zqhp zqup zqtkp zqFp zqNp)))
  k_with "BackIn" => ((k_dflt (refine' back_ ?k1 ?k2 ?k3 ?_; (case k1 => k_asm); (case k2 => k_asm); (case k3 => walk_at "mine drop"); k_whole; intro zqFp zqNp; (try dsimp only))))
  k_with "call ref" => ((k_here; k_dflt (refine wpAny_call ?_; refine' enter_in ?k1 ?k2 ?k3 ?k4 ?k5 ?k6 ?k7 ?k8 ?kB ?c2 ?c3 ?c4 ?c5 ?_; (case k1 => k_asm); (case k2 => k_asm); (case k3 => k_asm); (case k4 => exact Top.nolimit (by assumption)); (case k5 => k_is); (case k6 => k_is); (case k7 => exact Nat.le_of_ble_eq_true rfl); (case k8 => first | ((with_reducible show BindsTo _ _ ⟨[_], []⟩ _); first | exact BindsTo.of_eq (binds := [(_, _)]) rfl | exact binds_K (binds := [(_, _)]) (by k_in) rfl (by k_is) rfl rfl rfl) | ((with_reducible show BindsTo _ _ ⟨[_, _], []⟩ _); first | exact BindsTo.of_eq (binds := [(_, _), (_, _)]) rfl | exact binds_K (binds := [(_, _), (_, _)]) (by k_in) rfl (by k_is) rfl rfl rfl) | ((with_reducible show BindsTo _ _ ⟨[_, _, _], []⟩ _); first | exact BindsTo.of_eq (binds := [(_, _), (_, _), (_, _)]) rfl | exact binds_K (binds := [(_, _), (_, _), (_, _)]) (by k_in) rfl (by k_is) rfl rfl rfl) | ((with_reducible show BindsTo _ _ ⟨[_, _, _, _], []⟩ _); first | exact BindsTo.of_eq (binds := [(_, _), (_, _), (_, _), (_, _)]) rfl | exact binds_K (binds := [(_, _), (_, _), (_, _), (_, _)]) (by k_in) rfl (by k_is) rfl rfl rfl) | ((with_reducible show BindsTo _ _ ⟨[_, _, _, _, _], []⟩ _); first | exact BindsTo.of_eq (binds := [(_, _), (_, _), (_, _), (_, _), (_, _)]) rfl | exact binds_K (binds := [(_, _), (_, _), (_, _), (_, _), (_, _)]) (by k_in) rfl (by k_is) rfl rfl rfl)); (case c5 => decide); (case kB => exact locs rfl); (case c2 => exact rfl); (case c3 => exact rfl); (case c4 => exact rfl); k_whole; intro zqoLp zqLp zqhp zqtkp zqFp zqNp zql1 zqn1; (try k_lt zql1); (try (replace zqn1 := allNe_of zqn1; simp only [AllNe, and_true] at zqn1)); (try dsimp only); walk_at "mine texts")))
  k_with "call builtin:str.join" => ((k_here; (with_reducible show wpAny _ _ (call (Value.builtin "str.join") [Value.str _ _, Value.ref _]) _ _ _); k_dflt (refine join_listC (by is_list) (by repeat constructor) (by decide) (by (simp only [List.map_cons, List.map_nil, List.sum_cons, List.sum_nil, List.length_cons, List.length_nil]; omega)) ?_); intro zqtp zqkp))
  k_with "getMethod type:Exception" => ((k_here; refine' method_type ?F ?X ?m (by decide +kernel) ?e ?h ?_; (case F => k_asm); (case X => k_asm); (case m => exact meta_Exception); (case e => k_dflt k_is); (case h => k_handed)))
  k_with "compareOp IsNot" => ((k_here; k_dflt (refine isNot_none (by assumption) ?_)))
  k_with "call builtin:str.format" => ((k_here; k_dflt (refine' line_use ?k1 ?k2 ?k3 ?k4 ?k5 ?k6 ?k7 ?_; (case k1 => assumption); (case k2 => k_asm); (case k3 => k_asm); (case k4 => exact rfl); (case k5 => exact rfl); (case k6 => exact Nat.le_of_ble_eq_true rfl); (case k7 => exact Nat.le_of_ble_eq_true rfl); k_whole; intro zqhp zqup zqtkp zqFp zqNp)))
  k_with "call builtin:str.format" => ((k_here; (with_reducible show wpAny _ _ (call (Value.builtin "str.format") [Value.str _ _, _, _, _, _]) _ _ _); k_dflt (refine' fmt_use ?k1 ?k2 ?k3 ?k4 ?k5 ?_; (case k1 => k_asm); (case k2 => k_asm); (case k3 => exact ⟨rfl, rfl, Nat.le_of_ble_eq_true rfl, Nat.le_of_ble_eq_true rfl⟩); (case k4 => exact args_5 _ _ _ _ _); (case k5 => walk_at "mine fmt")); k_whole; intro zqhp zqup zqtkp zqFp zqNp))
  k_with "pyReprObj" => ((k_here; k_dflt (refine' reprObj_use ?k1 ?k2 ?k3 ?k4 ?k5 ?k6 ?k7 ?_; (case k1 => assumption); (case k2 => k_asm); (case k3 => k_asm); (case k4 => exact rfl); (case k5 => exact rfl); (case k6 => exact Nat.le_of_ble_eq_true rfl); (case k7 => exact Nat.le_of_ble_eq_true rfl); k_whole; intro zqhp zqup zqtkp zqFp zqNp)))
  trivial
theorem layW02b_3 : True := by
  k_with "call ref" => ((refine haltw_ ?_))
  k_with "call builtin:isinstance" => ((k_here; refine haltw_ ?_))
  k_with "call builtin:str.join" => ((refine haltw_ ?_))
  k_with "call builtin:len" => ((k_here; refine haltw_ ?_))
  k_with "CompSrc" => ((with_reducible refine haltw_ ?_))
  k_with "SrcT" => ((with_reducible refine haltw_ ?_))
  k_with "SrcD" => ((with_reducible refine haltw_ ?_))
  k_with "subscriptTail" => ((k_here; refine haltw_ ?_))
  trivial
theorem wr_bool : ∀ {p : Program} {loose : List Str} {mean : ExcName → Option Value} {mg mb : Str → Option Value} (w : World) (s : Shared) (x y : Nat) (hx : x ≤ 650) (hy : y ≤ 2400) (b : Bool)
    (Q E : Value → Shared → Prop) (KX : (hz.heap_129 w.params).In s.heap) (T : Top p loose mean mg mb s.heap)
    (hQ : ∀ h' tk (u : Tok), Grow s.heap h' → Q (.str (PyData.bool b).shown u) { s with heap := h', toks := tk }),
    wpAny (model PySem.Challenge.rw_dm0028_02.prog w) (AD x y) (call (.ref 87) [.bool b]) Q E s := by
  w_top off
  k_fill
  intro p loose mean mg mb w s x y hx hy b Q E KX T hQ
  obtain ⟨hh, g, dr, tk, os⟩ := s
  dsimp only at KX T hQ
  w_strict (
  refine wpAny_call ?_
  k_dflt (refine' enter_newC (h₀ := hh) (binds := [("value", .bool b)]) ?k1 ?k2 KX T.nolimit ?k5 ?k6 ?k7 ?k8 ?kB ?kD ?_ ?c2 ?c3 ?c4; (case k5 => k_is); (case k6 => k_is); (case k7 => exact room_ hx); (case k8 => first | exact BindsTo.of_eq rfl | exact binds_K KX rfl (by k_is) rfl rfl rfl); (case kB => exact rfl); (case kD => decide +kernel); (case c2 => exact rfl); (case c3 => exact rfl); (case c4 => exact rfl); (case k1 => exact fun _ _ e => e); (case k2 => exact Nat.le_refl _))
  intro L' h' tk' cells' F' N' Y'
  k_cells Y'
  (try dsimp only)
  walk_at "mine texts"
  cases b
  · k_steps
    exact hQ _ _ _ (Fr.keep (by k_asm))
  · k_steps
    exact hQ _ _ _ (Fr.keep (by k_asm)))
end
section
theorem layW02i_1 : True := by
  k_with_none
  k_with "ne" => (with_reducible (first | exact ns1 | exact ns2 | exact qlt (by assumption) | exact qgt (by assumption) | exact qne (by assumption) | exact qen (by assumption) | exact rlt (by assumption) | exact rgt (by assumption) | exact rne (by assumption) | exact ren (by assumption) | exact qlt (And.right (by assumption)) | exact qgt (And.right (by assumption)) | exact qne (And.right (by assumption)) | exact qen (And.right (by assumption)) | exact rlt (And.right (by assumption)) | exact rgt (And.right (by assumption)) | exact rne (And.right (by assumption)) | exact ren (And.right (by assumption)) | exact qlt (And.right (And.right (by assumption))) | exact qgt (And.right (And.right (by assumption))) | exact qne (And.right (And.right (by assumption))) | exact qen (And.right (And.right (by assumption))) | exact rlt (And.right (And.right (by assumption))) | exact rgt (And.right (And.right (by assumption))) | exact rne (And.right (And.right (by assumption))) | exact ren (And.right (And.right (by assumption))) | exact qlt (And.right (And.right (And.right (by assumption)))) | exact qgt (And.right (And.right (And.right (by assumption)))) | exact qne (And.right (And.right (And.right (by assumption)))) | exact qen (And.right (And.right (And.right (by assumption)))) | exact rlt (And.right (And.right (And.right (by assumption)))) | exact rgt (And.right (And.right (And.right (by assumption)))) | exact rne (And.right (And.right (And.right (by assumption)))) | exact ren (And.right (And.right (And.right (by assumption)))) | exact qlt (And.right (And.right (And.right (And.right (by assumption))))) | exact qgt (And.right (And.right (And.right (And.right (by assumption))))) | exact qne (And.right (And.right (And.right (And.right (by assumption))))) | exact qen (And.right (And.right (And.right (And.right (by assumption))))) | exact rlt (And.right (And.right (And.right (And.right (by assumption))))) | exact rgt (And.right (And.right (And.right (And.right (by assumption))))) | exact rne (And.right (And.right (And.right (And.right (by assumption))))) | exact ren (And.right (And.right (And.right (And.right (by assumption))))) | exact qlt (And.right (And.right (And.right (And.right (And.right (by assumption)))))) | exact qgt (And.right (And.right (And.right (And.right (And.right (by assumption)))))) | exact qne (And.right (And.right (And.right (And.right (And.right (by assumption)))))) | exact qen (And.right (And.right (And.right (And.right (And.right (by assumption)))))) | exact rlt (And.right (And.right (And.right (And.right (And.right (by assumption)))))) | exact rgt (And.right (And.right (And.right (And.right (And.right (by assumption)))))) | exact rne (And.right (And.right (And.right (And.right (And.right (by assumption)))))) | exact ren (And.right (And.right (And.right (And.right (And.right (by assumption)))))) | exact qlt (And.right (And.right (And.right (And.right (And.right (And.right (by assumption))))))) | exact qgt (And.right (And.right (And.right (And.right (And.right (And.right (by assumption))))))) | exact qne (And.right (And.right (And.right (And.right (And.right (And.right (by assumption))))))) | exact qen (And.right (And.right (And.right (And.right (And.right (And.right (by assumption))))))) | exact rlt (And.right (And.right (And.right (And.right (And.right (And.right (by assumption))))))) | exact rgt (And.right (And.right (And.right (And.right (And.right (And.right (by assumption))))))) | exact rne (And.right (And.right (And.right (And.right (And.right (And.right (by assumption))))))) | exact ren (And.right (And.right (And.right (And.right (And.right (And.right (by assumption))))))) | exact qlt (And.right (And.right (And.right (And.right (And.right (And.right (And.right (by assumption)))))))) | exact qgt (And.right (And.right (And.right (And.right (And.right (And.right (And.right (by assumption)))))))) | exact qne (And.right (And.right (And.right (And.right (And.right (And.right (And.right (by assumption)))))))) | exact qen (And.right (And.right (And.right (And.right (And.right (And.right (And.right (by assumption)))))))) | exact rlt (And.right (And.right (And.right (And.right (And.right (And.right (And.right (by assumption)))))))) | exact rgt (And.right (And.right (And.right (And.right (And.right (And.right (And.right (by assumption)))))))) | exact rne (And.right (And.right (And.right (And.right (And.right (And.right (And.right (by assumption)))))))) | exact ren (And.right (And.right (And.right (And.right (And.right (And.right (And.right (by assumption)))))))) | exact qlt (And.right (And.right (And.right (And.right (And.right (And.right (And.right (And.right (by assumption))))))))) | exact qgt (And.right (And.right (And.right (And.right (And.right (And.right (And.right (And.right (by assumption))))))))) | exact qne (And.right (And.right (And.right (And.right (And.right (And.right (And.right (And.right (by assumption))))))))) | exact qen (And.right (And.right (And.right (And.right (And.right (And.right (And.right (And.right (by assumption))))))))) | exact rlt (And.right (And.right (And.right (And.right (And.right (And.right (And.right (And.right (by assumption))))))))) | exact rgt (And.right (And.right (And.right (And.right (And.right (And.right (And.right (And.right (by assumption))))))))) | exact rne (And.right (And.right (And.right (And.right (And.right (And.right (And.right (And.right (by assumption))))))))) | exact ren (And.right (And.right (And.right (And.right (And.right (And.right (And.right (And.right (by assumption))))))))) | exact qlt (And.right (And.right (And.right (And.right (And.right (And.right (And.right (And.right (And.right (by assumption)))))))))) | exact qgt (And.right (And.right (And.right (And.right (And.right (And.right (And.right (And.right (And.right (by assumption)))))))))) | exact qne (And.right (And.right (And.right (And.right (And.right (And.right (And.right (And.right (And.right (by assumption)))))))))) | exact qen (And.right (And.right (And.right (And.right (And.right (And.right (And.right (And.right (And.right (by assumption)))))))))) | exact rlt (And.right (And.right (And.right (And.right (And.right (And.right (And.right (And.right (And.right (by assumption)))))))))) | exact rgt (And.right (And.right (And.right (And.right (And.right (And.right (And.right (And.right (And.right (by assumption)))))))))) | exact rne (And.right (And.right (And.right (And.right (And.right (And.right (And.right (And.right (And.right (by assumption)))))))))) | exact ren (And.right (And.right (And.right (And.right (And.right (And.right (And.right (And.right (And.right (by assumption)))))))))) | exact qlt (And.right (And.right (And.right (And.right (And.right (And.right (And.right (And.right (And.right (And.right (by assumption))))))))))) | exact qgt (And.right (And.right (And.right (And.right (And.right (And.right (And.right (And.right (And.right (And.right (by assumption))))))))))) | exact qne (And.right (And.right (And.right (And.right (And.right (And.right (And.right (And.right (And.right (And.right (by assumption))))))))))) | exact qen (And.right (And.right (And.right (And.right (And.right (And.right (And.right (And.right (And.right (And.right (by assumption))))))))))) | exact rlt (And.right (And.right (And.right (And.right (And.right (And.right (And.right (And.right (And.right (And.right (by assumption))))))))))) | exact rgt (And.right (And.right (And.right (And.right (And.right (And.right (And.right (And.right (And.right (And.right (by assumption))))))))))) | exact rne (And.right (And.right (And.right (And.right (And.right (And.right (And.right (And.right (And.right (And.right (by assumption))))))))))) | exact ren (And.right (And.right (And.right (And.right (And.right (And.right (And.right (And.right (And.right (And.right (by assumption))))))))))) | exact qlt (And.right (And.right (And.right (And.right (And.right (And.right (And.right (And.right (And.right (And.right (And.right (by assumption)))))))))))) | exact qgt (And.right (And.right (And.right (And.right (And.right (And.right (And.right (And.right (And.right (And.right (And.right (by assumption)))))))))))) | exact qne (And.right (And.right (And.right (And.right (And.right (And.right (And.right (And.right (And.right (And.right (And.right (by assumption)))))))))))) | exact qen (And.right (And.right (And.right (And.right (And.right (And.right (And.right (And.right (And.right (And.right (And.right (by assumption)))))))))))) | exact rlt (And.right (And.right (And.right (And.right (And.right (And.right (And.right (And.right (And.right (And.right (And.right (by assumption)))))))))))) | exact rgt (And.right (And.right (And.right (And.right (And.right (And.right (And.right (And.right (And.right (And.right (And.right (by assumption)))))))))))) | exact rne (And.right (And.right (And.right (And.right (And.right (And.right (And.right (And.right (And.right (And.right (And.right (by assumption)))))))))))) | exact ren (And.right (And.right (And.right (And.right (And.right (And.right (And.right (And.right (And.right (And.right (And.right (by assumption)))))))))))) | exact qlt (And.right (And.right (And.right (And.right (And.right (And.right (And.right (And.right (And.right (And.right (And.right (And.right (by assumption))))))))))))) | exact qgt (And.right (And.right (And.right (And.right (And.right (And.right (And.right (And.right (And.right (And.right (And.right (And.right (by assumption))))))))))))) | exact qne (And.right (And.right (And.right (And.right (And.right (And.right (And.right (And.right (And.right (And.right (And.right (And.right (by assumption))))))))))))) | exact qen (And.right (And.right (And.right (And.right (And.right (And.right (And.right (And.right (And.right (And.right (And.right (And.right (by assumption))))))))))))) | exact rlt (And.right (And.right (And.right (And.right (And.right (And.right (And.right (And.right (And.right (And.right (And.right (And.right (by assumption))))))))))))) | exact rgt (And.right (And.right (And.right (And.right (And.right (And.right (And.right (And.right (And.right (And.right (And.right (And.right (by assumption))))))))))))) | exact rne (And.right (And.right (And.right (And.right (And.right (And.right (And.right (And.right (And.right (And.right (And.right (And.right (by assumption))))))))))))) | exact ren (And.right (And.right (And.right (And.right (And.right (And.right (And.right (And.right (And.right (And.right (And.right (And.right (by assumption))))))))))))) | exact qlt (And.right (And.right (And.right (And.right (And.right (And.right (And.right (And.right (And.right (And.right (And.right (And.right (And.right (by assumption)))))))))))))) | exact qgt (And.right (And.right (And.right (And.right (And.right (And.right (And.right (And.right (And.right (And.right (And.right (And.right (And.right (by assumption)))))))))))))) | exact qne (And.right (And.right (And.right (And.right (And.right (And.right (And.right (And.right (And.right (And.right (And.right (And.right (And.right (by assumption)))))))))))))) | exact qen (And.right (And.right (And.right (And.right (And.right (And.right (And.right (And.right (And.right (And.right (And.right (And.right (And.right (by assumption)))))))))))))) | exact rlt (And.right (And.right (And.right (And.right (And.right (And.right (And.right (And.right (And.right (And.right (And.right (And.right (And.right (by assumption)))))))))))))) | exact rgt (And.right (And.right (And.right (And.right (And.right (And.right (And.right (And.right (And.right (And.right (And.right (And.right (And.right (by assumption)))))))))))))) | exact rne (And.right (And.right (And.right (And.right (And.right (And.right (And.right (And.right (And.right (And.right (And.right (And.right (And.right (by assumption)))))))))))))) | exact ren (And.right (And.right (And.right (And.right (And.right (And.right (And.right (And.right (And.right (And.right (And.right (And.right (And.right (by assumption)))))))))))))) | exact qlt (And.right (And.right (And.right (And.right (And.right (And.right (And.right (And.right (And.right (And.right (And.right (And.right (And.right (And.right (by assumption))))))))))))))) | exact qgt (And.right (And.right (And.right (And.right (And.right (And.right (And.right (And.right (And.right (And.right (And.right (And.right (And.right (And.right (by assumption))))))))))))))) | exact qne (And.right (And.right (And.right (And.right (And.right (And.right (And.right (And.right (And.right (And.right (And.right (And.right (And.right (And.right (by assumption))))))))))))))) | exact qen (And.right (And.right (And.right (And.right (And.right (And.right (And.right (And.right (And.right (And.right (And.right (And.right (And.right (And.right (by assumption))))))))))))))) | exact rlt (And.right (And.right (And.right (And.right (And.right (And.right (And.right (And.right (And.right (And.right (And.right (And.right (And.right (And.right (by assumption))))))))))))))) | exact rgt (And.right (And.right (And.right (And.right (And.right (And.right (And.right (And.right (And.right (And.right (And.right (And.right (And.right (And.right (by assumption))))))))))))))) | exact rne (And.right (And.right (And.right (And.right (And.right (And.right (And.right (And.right (And.right (And.right (And.right (And.right (And.right (And.right (by assumption))))))))))))))) | exact ren (And.right (And.right (And.right (And.right (And.right (And.right (And.right (And.right (And.right (And.right (And.right (And.right (And.right (And.right (by assumption))))))))))))))) | exact qlt (And.right (And.right (And.right (And.right (And.right (And.right (And.right (And.right (And.right (And.right (And.right (And.right (And.right (And.right (And.right (by assumption)))))))))))))))) | exact qgt (And.right (And.right (And.right (And.right (And.right (And.right (And.right (And.right (And.right (And.right (And.right (And.right (And.right (And.right (And.right (by assumption)))))))))))))))) | exact qne (And.right (And.right (And.right (And.right (And.right (And.right (And.right (And.right (And.right (And.right (And.right (And.right (And.right (And.right (And.right (by assumption)))))))))))))))) | exact qen (And.right (And.right (And.right (And.right (And.right (And.right (And.right (And.right (And.right (And.right (And.right (And.right (And.right (And.right (And.right (by assumption)))))))))))))))) | exact rlt (And.right (And.right (And.right (And.right (And.right (And.right (And.right (And.right (And.right (And.right (And.right (And.right (And.right (And.right (And.right (by assumption)))))))))))))))) | exact rgt (And.right (And.right (And.right (And.right (And.right (And.right (And.right (And.right (And.right (And.right (And.right (And.right (And.right (And.right (And.right (by assumption)))))))))))))))) | exact rne (And.right (And.right (And.right (And.right (And.right (And.right (And.right (And.right (And.right (And.right (And.right (And.right (And.right (And.right (And.right (by assumption)))))))))))))))) | exact ren (And.right (And.right (And.right (And.right (And.right (And.right (And.right (And.right (And.right (And.right (And.right (And.right (And.right (And.right (And.right (by assumption))))))))))))))))))
  trivial
theorem layW02i_2 : True := by
  k_with "mine texts" => ((try dsimp only [← sx0, ← sx1, ← sx2, ← sx3, ← sx4, ← sx5, ← sx6, ← sx7, ← sx8, ← sx9, ← sx10, ← sx11, ← sx12, ← sx13, ← sx14, ← sx15, ← sx16, ← sx17, ← sx18, ← sx19, ← sx20, ← sx21, ← sx22, ← sx23, ← sx24, ← sx25, ← sx26, ← sx27, ← sx28, ← sx29, ← sx30, ← sx31, ← sx32, ← sx33, ← sx34, ← sx35, ← sx36, ← sx37, ← sx38, ← sx39, ← sx40, ← sx41, ← sx42, ← sx43, ← sx44, ← sx45, ← sx46, ← sx47, ← sx48, ← sx49, ← sx50, ← sx51, ← sx52, ← sx53, ← sx54, ← sx55, ← sx56, ← sx57, ← sx58, ← sx59, ← sx60, ← sx61, ← sx62, ← sx63, ← sx64, ← sx65, ← sx66, ← sx67, ← sx68, ← sx69, ← sx70, ← sx71, ← sx72, ← sx73, ← sx74, ← sx75, ← sx76, ← sx77, ← sx78, ← sx79, ← sx80, ← sx81, ← sx82, ← sx83, ← sx84, ← sx85, ← sx86, ← sx87, ← sx88, ← sx89, ← sx90, ← sx91, ← sx92]))
  k_with "mine drop" => (first | (refine' Drop.head ?a; (case a => k_all)) | (refine' Drop.tail ?a ?b; (case a => k_ne); (case b => walk_at "mine drop")))
  k_with "setAttr ref" => ((k_here; k_dflt (first | (refine' exc_set0 ?k1 ?k2 ?k3 ?k4 ?k5 ?k6 ?k7 ?k8 ?k9 ?_; (case k1 => k_asm); (case k2 => k_asm); (case k3 => k_asm); (case k4 => k_mem); (case k5 => k_is); (case k6 => kernel_rfl); (case k7 => k_is); (case k8 => k_is); (case k9 => intro zqd; k_upd); k_whole; intro zqdp zqhp zqFp zqNp zql1; (try k_lt zql1)) | (refine' exc_set_args ?k1 ?k2 ?k3 ?k4 ?k5 ?k6 ?k7 ?k8 ?k9 ?k10 ?_; (case k1 => k_asm); (case k2 => k_asm); (case k3 => k_asm); (case k4 => first | (refine' InstAt.of_exc ?N ?h1 ?h2; (case N => k_asm); (case h1 => k_mem); (case h2 => k_mem)) | (refine' InstAt.of_exc0 ?N ?h1; (case N => k_asm); (case h1 => k_mem))); (case k5 => exact isTup_of (by k_asm) (by k_mem)); (case k6 => k_is); (case k7 => kernel_rfl); (case k8 => k_is); (case k9 => k_is); (case k10 => k_upd); k_whole; intro zqhp zqFp zqNp) | (refine' exc_set ?k1 ?k2 ?k3 ?k4 ?k5 ?k6 ?k7 ?k8 ?k9 ?k10 ?k11 ?k12 ?_; (case k1 => k_asm); (case k2 => k_asm); (case k3 => k_asm); (case k4 => first | (refine' InstAt.of_exc ?N ?h1 ?h2; (case N => k_asm); (case h1 => k_mem); (case h2 => k_mem)) | (refine' InstAt.of_exc0 ?N ?h1; (case N => k_asm); (case h1 => k_mem))); (case k5 => k_is); (case k6 => kernel_rfl); (case k7 => k_is); (case k8 => k_is); (case k9 => k_get); (case k10 => k_put); (case k11 => k_upd); (case k12 => exact Nat.le_of_ble_eq_true rfl); k_whole; intro zqhp zqFp zqNp))))
  k_with "call builtin:Exception.__init__" => ((k_here; k_dflt (refine' exc_init_call ?k1 ?k2 ?k3 ?k4 ?k5 ?k6 ?_; (case k1 => k_asm); (case k2 => k_asm); (case k3 => k_asm); (case k4 => first | (refine' InstAt.of_exc ?N ?h1 ?h2; (case N => k_asm); (case h1 => k_mem); (case h2 => k_mem)) | (refine' InstAt.of_exc0 ?N ?h1; (case N => k_asm); (case h1 => k_mem))); (case k5 => k_is); (case k6 => intro zqt; k_upd); k_whole; intro zqtp zqhp zqFp zqNp zql1; (try k_lt zql1))))
  k_with "call builtin:repr" => ((k_here; k_dflt (refine' repr_use ?k1 ?k2 ?k3 ?k4 ?k5 ?k6 ?k7 ?_; (case k1 => assumption); (case k2 => k_asm); (case k3 => k_asm); (case k4 => exact rfl); (case k5 => exact rfl); (case k6 => exact Nat.le_of_ble_eq_true rfl); (case k7 => exact Nat.le_of_ble_eq_true rfl); k_whole; intro zqhp zqup zqtkp zqFp zqNp)))
  k_with "BackIn" => ((k_dflt (refine' back_ ?k1 ?k2 ?k3 ?_; (case k1 => k_asm); (case k2 => k_asm); (case k3 => walk_at "mine drop"); k_whole; intro zqFp zqNp; (try dsimp only))))
  k_with "call ref" => ((k_here; k_dflt (refine wpAny_call ?_; refine' enter_in ?k1 ?k2 ?k3 ?k4 ?k5 ?k6 ?k7 ?k8 ?kB ?c2 ?c3 ?c4 ?c5 ?_; (case k1 => k_asm); (case k2 => k_asm); (case k3 => k_asm); (case k4 => exact Top.nolimit (by assumption)); (case k5 => k_is); (case k6 => k_is); (case k7 => exact Nat.le_of_ble_eq_true rfl); (case k8 => first | ((with_reducible show BindsTo _ _ ⟨[_], []⟩ _); first | exact BindsTo.of_eq (binds := [(_, _)]) rfl | exact binds_K (binds := [(_, _)]) (by k_in) rfl (by k_is) rfl rfl rfl) | ((with_reducible show BindsTo _ _ ⟨[_, _], []⟩ _); first | exact BindsTo.of_eq (binds := [(_, _), (_, _)]) rfl | exact binds_K (binds := [(_, _), (_, _)]) (by k_in) rfl (by k_is) rfl rfl rfl) | ((with_reducible show BindsTo _ _ ⟨[_, _, _], []⟩ _); first | exact BindsTo.of_eq (binds := [(_, _), (_, _), (_, _)]) rfl | exact binds_K (binds := [(_, _), (_, _), (_, _)]) (by k_in) rfl (by k_is) rfl rfl rfl) | ((with_reducible show BindsTo _ _ ⟨[_, _, _, _], []⟩ _); first | exact BindsTo.of_eq (binds := [(_, _), (_, _), (_, _), (_, _)]) rfl | exact binds_K (binds := [(_, _), (_, _), (_, _), (_, _)]) (by k_in) rfl (by k_is) rfl rfl rfl) | ((with_reducible show BindsTo _ _ ⟨[_, _, _, _, _], []⟩ _); first | exact BindsTo.of_eq (binds := [(_, _), (_, _), (_, _), (_, _), (_, _)]) rfl | exact binds_K (binds := [(_, _), (_, _), (_, _), (_, _), (_, _)]) (by k_in) rfl (by k_is) rfl rfl rfl)); (case c5 => decide); (case kB => exact locs rfl); (case c2 => exact rfl); (case c3 => exact rfl); (case c4 => exact rfl); k_whole; intro zqoLp zqLp zqhp zqtkp zqFp zqNp zql1 zqn1; (try k_lt zql1); (try (replace zqn1 := allNe_of zqn1; simp only [AllNe, and_true] at zqn1)); (try dsimp only); walk_at "mine texts")))
  k_with "call builtin:str.join" => ((k_here; (with_reducible show wpAny _ _ (call (Value.builtin "str.join") [Value.str _ _, Value.ref _]) _ _ _); k_dflt (refine join_listC (by is_list) (by repeat constructor) (by decide) (by (simp only [List.map_cons, List.map_nil, List.sum_cons, List.sum_nil, List.length_cons, List.length_nil]; omega)) ?_); intro zqtp zqkp))
  k_with "getMethod type:Exception" => ((k_here; refine' method_type ?F ?X ?m (by decide +kernel) ?e ?h ?_; (case F => k_asm); (case X => k_asm); (case m => exact meta_Exception); (case e => k_dflt k_is); (case h => k_handed)))
  k_with "compareOp IsNot" => ((k_here; k_dflt (refine isNot_none (by assumption) ?_)))
  k_with "call builtin:str.format" => ((k_here; k_dflt (refine' line_use ?k1 ?k2 ?k3 ?k4 ?k5 ?k6 ?k7 ?_; (case k1 => assumption); (case k2 => k_asm); (case k3 => k_asm); (case k4 => exact rfl); (case k5 => exact rfl); (case k6 => exact Nat.le_of_ble_eq_true rfl); (case k7 => exact Nat.le_of_ble_eq_true rfl); k_whole; intro zqhp zqup zqtkp zqFp zqNp)))
  k_with "call builtin:str.format" => ((k_here; (with_reducible show wpAny _ _ (call (Value.builtin "str.format") [Value.str _ _, _, _, _, _]) _ _ _); k_dflt (refine' fmt_use ?k1 ?k2 ?k3 ?k4 ?k5 ?_; (case k1 => k_asm); (case k2 => k_asm); (case k3 => exact ⟨rfl, rfl, Nat.le_of_ble_eq_true rfl, Nat.le_of_ble_eq_true rfl⟩); (case k4 => exact args_5 _ _ _ _ _); (case k5 => walk_at "mine fmt")); k_whole; intro zqhp zqup zqtkp zqFp zqNp))
  k_with "pyReprObj" => ((k_here; k_dflt (refine' reprObj_use ?k1 ?k2 ?k3 ?k4 ?k5 ?k6 ?k7 ?_; (case k1 => assumption); (case k2 => k_asm); (case k3 => k_asm); (case k4 => exact rfl); (case k5 => exact rfl); (case k6 => exact Nat.le_of_ble_eq_true rfl); (case k7 => exact Nat.le_of_ble_eq_true rfl); k_whole; intro zqhp zqup zqtkp zqFp zqNp)))
  trivial
theorem layW02i_3 : True := by
  k_with "call ref" => ((refine haltw_ ?_))
  k_with "call builtin:isinstance" => ((k_here; refine haltw_ ?_))
  k_with "call builtin:str.join" => ((refine haltw_ ?_))
  k_with "call builtin:len" => ((k_here; refine haltw_ ?_))
  k_with "CompSrc" => ((with_reducible refine haltw_ ?_))
  k_with "SrcT" => ((with_reducible refine haltw_ ?_))
  k_with "SrcD" => ((with_reducible refine haltw_ ?_))
  k_with "subscriptTail" => ((k_here; refine haltw_ ?_))
  trivial
theorem wr_int : ∀ {p : Program} {loose : List Str} {mean : ExcName → Option Value} {mg mb : Str → Option Value} (w : World) (s : Shared) (x y : Nat) (hx : x ≤ 650) (hy : y ≤ 2400) (n : Int) (t : Tok) (h1 : n.natAbs < 10 ^ 6)
    (Q E : Value → Shared → Prop) (KX : (hz.heap_129 w.params).In s.heap) (T : Top p loose mean mg mb s.heap)
    (hQ : ∀ h' tk (u : Tok), Grow s.heap h' → Q (.str (Str.ofString (toString n)) u) { s with heap := h', toks := tk }),
    wpAny (model PySem.Challenge.rw_dm0028_02.prog w) (AD x y) (call (.ref 87) [.int n t]) Q E s := by
  w_top off
  k_fill
  intro p loose mean mg mb w s x y hx hy n t h1 Q E KX T hQ
  obtain ⟨hh, g, dr, tk, os⟩ := s
  dsimp only at KX T hQ
  w_strict (
  refine wpAny_call ?_
  k_dflt (refine' enter_newC (h₀ := hh) (binds := [("value", .int n t)]) ?k1 ?k2 KX T.nolimit ?k5 ?k6 ?k7 ?k8 ?kB ?kD ?_ ?c2 ?c3 ?c4; (case k5 => k_is); (case k6 => k_is); (case k7 => exact room_ hx); (case k8 => first | exact BindsTo.of_eq rfl | exact binds_K KX rfl (by k_is) rfl rfl rfl); (case kB => exact rfl); (case kD => decide +kernel); (case c2 => exact rfl); (case c3 => exact rfl); (case c4 => exact rfl); (case k1 => exact fun _ _ e => e); (case k2 => exact Nat.le_refl _))
  intro L' h' tk' cells' F' N' Y'
  k_cells Y'
  (try dsimp only)
  walk_at "mine texts"
  k_steps
  unfold Halt
  refine kia_one (K := KP2 w) kitx_int (Frag.In.keeps KX (Fr.keep (by k_asm))) trivial (by kernel_rfl : kitOne _ (.type "int") (.type "int") = some true) (by intro q; cases q) ?_
  intro tk1
  k_steps
  unfold Halt
  (with_reducible rename Fr _ _ _ _ => F3)
  (with_reducible rename News _ _ _ _ => N3)
  refine txt_use (fun Q E hQ => fig02 w _ n t h1 Q E (Frag.In.keeps KX F3.keep) (Top.keeps (by assumption) F3.keep) hQ) F3 N3 rfl rfl (show x + 1 ≤ 700 by omega) (show y + 3 ≤ 2500 by omega) ?_
  intro h5 tk5 u5 F5 N5
  k_steps
  exact hQ _ _ _ (Fr.keep (by k_asm)))
end
section
theorem layW02s_1 : True := by
  k_with_none
  k_with "ne" => (with_reducible (first | exact ns1 | exact ns2 | exact qlt (by assumption) | exact qgt (by assumption) | exact qne (by assumption) | exact qen (by assumption) | exact rlt (by assumption) | exact rgt (by assumption) | exact rne (by assumption) | exact ren (by assumption) | exact qlt (And.right (by assumption)) | exact qgt (And.right (by assumption)) | exact qne (And.right (by assumption)) | exact qen (And.right (by assumption)) | exact rlt (And.right (by assumption)) | exact rgt (And.right (by assumption)) | exact rne (And.right (by assumption)) | exact ren (And.right (by assumption)) | exact qlt (And.right (And.right (by assumption))) | exact qgt (And.right (And.right (by assumption))) | exact qne (And.right (And.right (by assumption))) | exact qen (And.right (And.right (by assumption))) | exact rlt (And.right (And.right (by assumption))) | exact rgt (And.right (And.right (by assumption))) | exact rne (And.right (And.right (by assumption))) | exact ren (And.right (And.right (by assumption))) | exact qlt (And.right (And.right (And.right (by assumption)))) | exact qgt (And.right (And.right (And.right (by assumption)))) | exact qne (And.right (And.right (And.right (by assumption)))) | exact qen (And.right (And.right (And.right (by assumption)))) | exact rlt (And.right (And.right (And.right (by assumption)))) | exact rgt (And.right (And.right (And.right (by assumption)))) | exact rne (And.right (And.right (And.right (by assumption)))) | exact ren (And.right (And.right (And.right (by assumption)))) | exact qlt (And.right (And.right (And.right (And.right (by assumption))))) | exact qgt (And.right (And.right (And.right (And.right (by assumption))))) | exact qne (And.right (And.right (And.right (And.right (by assumption))))) | exact qen (And.right (And.right (And.right (And.right (by assumption))))) | exact rlt (And.right (And.right (And.right (And.right (by assumption))))) | exact rgt (And.right (And.right (And.right (And.right (by assumption))))) | exact rne (And.right (And.right (And.right (And.right (by assumption))))) | exact ren (And.right (And.right (And.right (And.right (by assumption))))) | exact qlt (And.right (And.right (And.right (And.right (And.right (by assumption)))))) | exact qgt (And.right (And.right (And.right (And.right (And.right (by assumption)))))) | exact qne (And.right (And.right (And.right (And.right (And.right (by assumption)))))) | exact qen (And.right (And.right (And.right (And.right (And.right (by assumption)))))) | exact rlt (And.right (And.right (And.right (And.right (And.right (by assumption)))))) | exact rgt (And.right (And.right (And.right (And.right (And.right (by assumption)))))) | exact rne (And.right (And.right (And.right (And.right (And.right (by assumption)))))) | exact ren (And.right (And.right (And.right (And.right (And.right (by assumption)))))) | exact qlt (And.right (And.right (And.right (And.right (And.right (And.right (by assumption))))))) | exact qgt (And.right (And.right (And.right (And.right (And.right (And.right (by assumption))))))) | exact qne (And.right (And.right (And.right (And.right (And.right (And.right (by assumption))))))) | exact qen (And.right (And.right (And.right (And.right (And.right (And.right (by assumption))))))) | exact rlt (And.right (And.right (And.right (And.right (And.right (And.right (by assumption))))))) | exact rgt (And.right (And.right (And.right (And.right (And.right (And.right (by assumption))))))) | exact rne (And.right (And.right (And.right (And.right (And.right (And.right (by assumption))))))) | exact ren (And.right (And.right (And.right (And.right (And.right (And.right (by assumption))))))) | exact qlt (And.right (And.right (And.right (And.right (And.right (And.right (And.right (by assumption)))))))) | exact qgt (And.right (And.right (And.right (And.right (And.right (And.right (And.right (by assumption)))))))) | exact qne (And.right (And.right (And.right (And.right (And.right (And.right (And.right (by assumption)))))))) | exact qen (And.right (And.right (And.right (And.right (And.right (And.right (And.right (by assumption)))))))) | exact rlt (And.right (And.right (And.right (And.right (And.right (And.right (And.right (by assumption)))))))) | exact rgt (And.right (And.right (And.right (And.right (And.right (And.right (And.right (by assumption)))))))) | exact rne (And.right (And.right (And.right (And.right (And.right (And.right (And.right (by assumption)))))))) | exact ren (And.right (And.right (And.right (And.right (And.right (And.right (And.right (by assumption)))))))) | exact qlt (And.right (And.right (And.right (And.right (And.right (And.right (And.right (And.right (by assumption))))))))) | exact qgt (And.right (And.right (And.right (And.right (And.right (And.right (And.right (And.right (by assumption))))))))) | exact qne (And.right (And.right (And.right (And.right (And.right (And.right (And.right (And.right (by assumption))))))))) | exact qen (And.right (And.right (And.right (And.right (And.right (And.right (And.right (And.right (by assumption))))))))) | exact rlt (And.right (And.right (And.right (And.right (And.right (And.right (And.right (And.right (by assumption))))))))) | exact rgt (And.right (And.right (And.right (And.right (And.right (And.right (And.right (And.right (by assumption))))))))) | exact rne (And.right (And.right (And.right (And.right (And.right (And.right (And.right (And.right (by assumption))))))))) | exact ren (And.right (And.right (And.right (And.right (And.right (And.right (And.right (And.right (by assumption))))))))) | exact qlt (And.right (And.right (And.right (And.right (And.right (And.right (And.right (And.right (And.right (by assumption)))))))))) | exact qgt (And.right (And.right (And.right (And.right (And.right (And.right (And.right (And.right (And.right (by assumption)))))))))) | exact qne (And.right (And.right (And.right (And.right (And.right (And.right (And.right (And.right (And.right (by assumption)))))))))) | exact qen (And.right (And.right (And.right (And.right (And.right (And.right (And.right (And.right (And.right (by assumption)))))))))) | exact rlt (And.right (And.right (And.right (And.right (And.right (And.right (And.right (And.right (And.right (by assumption)))))))))) | exact rgt (And.right (And.right (And.right (And.right (And.right (And.right (And.right (And.right (And.right (by assumption)))))))))) | exact rne (And.right (And.right (And.right (And.right (And.right (And.right (And.right (And.right (And.right (by assumption)))))))))) | exact ren (And.right (And.right (And.right (And.right (And.right (And.right (And.right (And.right (And.right (by assumption)))))))))) | exact qlt (And.right (And.right (And.right (And.right (And.right (And.right (And.right (And.right (And.right (And.right (by assumption))))))))))) | exact qgt (And.right (And.right (And.right (And.right (And.right (And.right (And.right (And.right (And.right (And.right (by assumption))))))))))) | exact qne (And.right (And.right (And.right (And.right (And.right (And.right (And.right (And.right (And.right (And.right (by assumption))))))))))) | exact qen (And.right (And.right (And.right (And.right (And.right (And.right (And.right (And.right (And.right (And.right (by assumption))))))))))) | exact rlt (And.right (And.right (And.right (And.right (And.right (And.right (And.right (And.right (And.right (And.right (by assumption))))))))))) | exact rgt (And.right (And.right (And.right (And.right (And.right (And.right (And.right (And.right (And.right (And.right (by assumption))))))))))) | exact rne (And.right (And.right (And.right (And.right (And.right (And.right (And.right (And.right (And.right (And.right (by assumption))))))))))) | exact ren (And.right (And.right (And.right (And.right (And.right (And.right (And.right (And.right (And.right (And.right (by assumption))))))))))) | exact qlt (And.right (And.right (And.right (And.right (And.right (And.right (And.right (And.right (And.right (And.right (And.right (by assumption)))))))))))) | exact qgt (And.right (And.right (And.right (And.right (And.right (And.right (And.right (And.right (And.right (And.right (And.right (by assumption)))))))))))) | exact qne (And.right (And.right (And.right (And.right (And.right (And.right (And.right (And.right (And.right (And.right (And.right (by assumption)))))))))))) | exact qen (And.right (And.right (And.right (And.right (And.right (And.right (And.right (And.right (And.right (And.right (And.right (by assumption)))))))))))) | exact rlt (And.right (And.right (And.right (And.right (And.right (And.right (And.right (And.right (And.right (And.right (And.right (by assumption)))))))))))) | exact rgt (And.right (And.right (And.right (And.right (And.right (And.right (And.right (And.right (And.right (And.right (And.right (by assumption)))))))))))) | exact rne (And.right (And.right (And.right (And.right (And.right (And.right (And.right (And.right (And.right (And.right (And.right (by assumption)))))))))))) | exact ren (And.right (And.right (And.right (And.right (And.right (And.right (And.right (And.right (And.right (And.right (And.right (by assumption)))))))))))) | exact qlt (And.right (And.right (And.right (And.right (And.right (And.right (And.right (And.right (And.right (And.right (And.right (And.right (by assumption))))))))))))) | exact qgt (And.right (And.right (And.right (And.right (And.right (And.right (And.right (And.right (And.right (And.right (And.right (And.right (by assumption))))))))))))) | exact qne (And.right (And.right (And.right (And.right (And.right (And.right (And.right (And.right (And.right (And.right (And.right (And.right (by assumption))))))))))))) | exact qen (And.right (And.right (And.right (And.right (And.right (And.right (And.right (And.right (And.right (And.right (And.right (And.right (by assumption))))))))))))) | exact rlt (And.right (And.right (And.right (And.right (And.right (And.right (And.right (And.right (And.right (And.right (And.right (And.right (by assumption))))))))))))) | exact rgt (And.right (And.right (And.right (And.right (And.right (And.right (And.right (And.right (And.right (And.right (And.right (And.right (by assumption))))))))))))) | exact rne (And.right (And.right (And.right (And.right (And.right (And.right (And.right (And.right (And.right (And.right (And.right (And.right (by assumption))))))))))))) | exact ren (And.right (And.right (And.right (And.right (And.right (And.right (And.right (And.right (And.right (And.right (And.right (And.right (by assumption))))))))))))) | exact qlt (And.right (And.right (And.right (And.right (And.right (And.right (And.right (And.right (And.right (And.right (And.right (And.right (And.right (by assumption)))))))))))))) | exact qgt (And.right (And.right (And.right (And.right (And.right (And.right (And.right (And.right (And.right (And.right (And.right (And.right (And.right (by assumption)))))))))))))) | exact qne (And.right (And.right (And.right (And.right (And.right (And.right (And.right (And.right (And.right (And.right (And.right (And.right (And.right (by assumption)))))))))))))) | exact qen (And.right (And.right (And.right (And.right (And.right (And.right (And.right (And.right (And.right (And.right (And.right (And.right (And.right (by assumption)))))))))))))) | exact rlt (And.right (And.right (And.right (And.right (And.right (And.right (And.right (And.right (And.right (And.right (And.right (And.right (And.right (by assumption)))))))))))))) | exact rgt (And.right (And.right (And.right (And.right (And.right (And.right (And.right (And.right (And.right (And.right (And.right (And.right (And.right (by assumption)))))))))))))) | exact rne (And.right (And.right (And.right (And.right (And.right (And.right (And.right (And.right (And.right (And.right (And.right (And.right (And.right (by assumption)))))))))))))) | exact ren (And.right (And.right (And.right (And.right (And.right (And.right (And.right (And.right (And.right (And.right (And.right (And.right (And.right (by assumption)))))))))))))) | exact qlt (And.right (And.right (And.right (And.right (And.right (And.right (And.right (And.right (And.right (And.right (And.right (And.right (And.right (And.right (by assumption))))))))))))))) | exact qgt (And.right (And.right (And.right (And.right (And.right (And.right (And.right (And.right (And.right (And.right (And.right (And.right (And.right (And.right (by assumption))))))))))))))) | exact qne (And.right (And.right (And.right (And.right (And.right (And.right (And.right (And.right (And.right (And.right (And.right (And.right (And.right (And.right (by assumption))))))))))))))) | exact qen (And.right (And.right (And.right (And.right (And.right (And.right (And.right (And.right (And.right (And.right (And.right (And.right (And.right (And.right (by assumption))))))))))))))) | exact rlt (And.right (And.right (And.right (And.right (And.right (And.right (And.right (And.right (And.right (And.right (And.right (And.right (And.right (And.right (by assumption))))))))))))))) | exact rgt (And.right (And.right (And.right (And.right (And.right (And.right (And.right (And.right (And.right (And.right (And.right (And.right (And.right (And.right (by assumption))))))))))))))) | exact rne (And.right (And.right (And.right (And.right (And.right (And.right (And.right (And.right (And.right (And.right (And.right (And.right (And.right (And.right (by assumption))))))))))))))) | exact ren (And.right (And.right (And.right (And.right (And.right (And.right (And.right (And.right (And.right (And.right (And.right (And.right (And.right (And.right (by assumption))))))))))))))) | exact qlt (And.right (And.right (And.right (And.right (And.right (And.right (And.right (And.right (And.right (And.right (And.right (And.right (And.right (And.right (And.right (by assumption)))))))))))))))) | exact qgt (And.right (And.right (And.right (And.right (And.right (And.right (And.right (And.right (And.right (And.right (And.right (And.right (And.right (And.right (And.right (by assumption)))))))))))))))) | exact qne (And.right (And.right (And.right (And.right (And.right (And.right (And.right (And.right (And.right (And.right (And.right (And.right (And.right (And.right (And.right (by assumption)))))))))))))))) | exact qen (And.right (And.right (And.right (And.right (And.right (And.right (And.right (And.right (And.right (And.right (And.right (And.right (And.right (And.right (And.right (by assumption)))))))))))))))) | exact rlt (And.right (And.right (And.right (And.right (And.right (And.right (And.right (And.right (And.right (And.right (And.right (And.right (And.right (And.right (And.right (by assumption)))))))))))))))) | exact rgt (And.right (And.right (And.right (And.right (And.right (And.right (And.right (And.right (And.right (And.right (And.right (And.right (And.right (And.right (And.right (by assumption)))))))))))))))) | exact rne (And.right (And.right (And.right (And.right (And.right (And.right (And.right (And.right (And.right (And.right (And.right (And.right (And.right (And.right (And.right (by assumption)))))))))))))))) | exact ren (And.right (And.right (And.right (And.right (And.right (And.right (And.right (And.right (And.right (And.right (And.right (And.right (And.right (And.right (And.right (by assumption))))))))))))))))))
  trivial
theorem layW02s_2 : True := by
  k_with "mine texts" => ((try dsimp only [← sx0, ← sx1, ← sx2, ← sx3, ← sx4, ← sx5, ← sx6, ← sx7, ← sx8, ← sx9, ← sx10, ← sx11, ← sx12, ← sx13, ← sx14, ← sx15, ← sx16, ← sx17, ← sx18, ← sx19, ← sx20, ← sx21, ← sx22, ← sx23, ← sx24, ← sx25, ← sx26, ← sx27, ← sx28, ← sx29, ← sx30, ← sx31, ← sx32, ← sx33, ← sx34, ← sx35, ← sx36, ← sx37, ← sx38, ← sx39, ← sx40, ← sx41, ← sx42, ← sx43, ← sx44, ← sx45, ← sx46, ← sx47, ← sx48, ← sx49, ← sx50, ← sx51, ← sx52, ← sx53, ← sx54, ← sx55, ← sx56, ← sx57, ← sx58, ← sx59, ← sx60, ← sx61, ← sx62, ← sx63, ← sx64, ← sx65, ← sx66, ← sx67, ← sx68, ← sx69, ← sx70, ← sx71, ← sx72, ← sx73, ← sx74, ← sx75, ← sx76, ← sx77, ← sx78, ← sx79, ← sx80, ← sx81, ← sx82, ← sx83, ← sx84, ← sx85, ← sx86, ← sx87, ← sx88, ← sx89, ← sx90, ← sx91, ← sx92]))
  k_with "mine drop" => (first | (refine' Drop.head ?a; (case a => k_all)) | (refine' Drop.tail ?a ?b; (case a => k_ne); (case b => walk_at "mine drop")))
  k_with "setAttr ref" => ((k_here; k_dflt (first | (refine' exc_set0 ?k1 ?k2 ?k3 ?k4 ?k5 ?k6 ?k7 ?k8 ?k9 ?_; (case k1 => k_asm); (case k2 => k_asm); (case k3 => k_asm); (case k4 => k_mem); (case k5 => k_is); (case k6 => kernel_rfl); (case k7 => k_is); (case k8 => k_is); (case k9 => intro zqd; k_upd); k_whole; intro zqdp zqhp zqFp zqNp zql1; (try k_lt zql1)) | (refine' exc_set_args ?k1 ?k2 ?k3 ?k4 ?k5 ?k6 ?k7 ?k8 ?k9 ?k10 ?_; (case k1 => k_asm); (case k2 => k_asm); (case k3 => k_asm); (case k4 => first | (refine' InstAt.of_exc ?N ?h1 ?h2; (case N => k_asm); (case h1 => k_mem); (case h2 => k_mem)) | (refine' InstAt.of_exc0 ?N ?h1; (case N => k_asm); (case h1 => k_mem))); (case k5 => exact isTup_of (by k_asm) (by k_mem)); (case k6 => k_is); (case k7 => kernel_rfl); (case k8 => k_is); (case k9 => k_is); (case k10 => k_upd); k_whole; intro zqhp zqFp zqNp) | (refine' exc_set ?k1 ?k2 ?k3 ?k4 ?k5 ?k6 ?k7 ?k8 ?k9 ?k10 ?k11 ?k12 ?_; (case k1 => k_asm); (case k2 => k_asm); (case k3 => k_asm); (case k4 => first | (refine' InstAt.of_exc ?N ?h1 ?h2; (case N => k_asm); (case h1 => k_mem); (case h2 => k_mem)) | (refine' InstAt.of_exc0 ?N ?h1; (case N => k_asm); (case h1 => k_mem))); (case k5 => k_is); (case k6 => kernel_rfl); (case k7 => k_is); (case k8 => k_is); (case k9 => k_get); (case k10 => k_put); (case k11 => k_upd); (case k12 => exact Nat.le_of_ble_eq_true rfl); k_whole; intro zqhp zqFp zqNp))))
  k_with "call builtin:Exception.__init__" => ((k_here; k_dflt (refine' exc_init_call ?k1 ?k2 ?k3 ?k4 ?k5 ?k6 ?_; (case k1 => k_asm); (case k2 => k_asm); (case k3 => k_asm); (case k4 => first | (refine' InstAt.of_exc ?N ?h1 ?h2; (case N => k_asm); (case h1 => k_mem); (case h2 => k_mem)) | (refine' InstAt.of_exc0 ?N ?h1; (case N => k_asm); (case h1 => k_mem))); (case k5 => k_is); (case k6 => intro zqt; k_upd); k_whole; intro zqtp zqhp zqFp zqNp zql1; (try k_lt zql1))))
  k_with "call builtin:repr" => ((k_here; k_dflt (refine' repr_use ?k1 ?k2 ?k3 ?k4 ?k5 ?k6 ?k7 ?_; (case k1 => assumption); (case k2 => k_asm); (case k3 => k_asm); (case k4 => exact rfl); (case k5 => exact rfl); (case k6 => exact Nat.le_of_ble_eq_true rfl); (case k7 => exact Nat.le_of_ble_eq_true rfl); k_whole; intro zqhp zqup zqtkp zqFp zqNp)))
  k_with "BackIn" => ((k_dflt (refine' back_ ?k1 ?k2 ?k3 ?_; (case k1 => k_asm); (case k2 => k_asm); (case k3 => walk_at "mine drop"); k_whole; intro zqFp zqNp; (try dsimp only))))
  k_with "call ref" => ((k_here; k_dflt (refine wpAny_call ?_; refine' enter_in ?k1 ?k2 ?k3 ?k4 ?k5 ?k6 ?k7 ?k8 ?kB ?c2 ?c3 ?c4 ?c5 ?_; (case k1 => k_asm); (case k2 => k_asm); (case k3 => k_asm); (case k4 => exact Top.nolimit (by assumption)); (case k5 => k_is); (case k6 => k_is); (case k7 => exact Nat.le_of_ble_eq_true rfl); (case k8 => first | ((with_reducible show BindsTo _ _ ⟨[_], []⟩ _); first | exact BindsTo.of_eq (binds := [(_, _)]) rfl | exact binds_K (binds := [(_, _)]) (by k_in) rfl (by k_is) rfl rfl rfl) | ((with_reducible show BindsTo _ _ ⟨[_, _], []⟩ _); first | exact BindsTo.of_eq (binds := [(_, _), (_, _)]) rfl | exact binds_K (binds := [(_, _), (_, _)]) (by k_in) rfl (by k_is) rfl rfl rfl) | ((with_reducible show BindsTo _ _ ⟨[_, _, _], []⟩ _); first | exact BindsTo.of_eq (binds := [(_, _), (_, _), (_, _)]) rfl | exact binds_K (binds := [(_, _), (_, _), (_, _)]) (by k_in) rfl (by k_is) rfl rfl rfl) | ((with_reducible show BindsTo _ _ ⟨[_, _, _, _], []⟩ _); first | exact BindsTo.of_eq (binds := [(_, _), (_, _), (_, _), (_, _)]) rfl | exact binds_K (binds := [(_, _), (_, _), (_, _), (_, _)]) (by k_in) rfl (by k_is) rfl rfl rfl) | ((with_reducible show BindsTo _ _ ⟨[_, _, _, _, _], []⟩ _); first | exact BindsTo.of_eq (binds := [(_, _), (_, _), (_, _), (_, _), (_, _)]) rfl | exact binds_K (binds := [(_, _), (_, _), (_, _), (_, _), (_, _)]) (by k_in) rfl (by k_is) rfl rfl rfl)); (case c5 => decide); (case kB => exact locs rfl); (case c2 => exact rfl); (case c3 => exact rfl); (case c4 => exact rfl); k_whole; intro zqoLp zqLp zqhp zqtkp zqFp zqNp zql1 zqn1; (try k_lt zql1); (try (replace zqn1 := allNe_of zqn1; simp only [AllNe, and_true] at zqn1)); (try dsimp only); walk_at "mine texts")))
  k_with "call builtin:str.join" => ((k_here; (with_reducible show wpAny _ _ (call (Value.builtin "str.join") [Value.str _ _, Value.ref _]) _ _ _); k_dflt (refine join_listC (by is_list) (by repeat constructor) (by decide) (by (simp only [List.map_cons, List.map_nil, List.sum_cons, List.sum_nil, List.length_cons, List.length_nil]; omega)) ?_); intro zqtp zqkp))
  k_with "getMethod type:Exception" => ((k_here; refine' method_type ?F ?X ?m (by decide +kernel) ?e ?h ?_; (case F => k_asm); (case X => k_asm); (case m => exact meta_Exception); (case e => k_dflt k_is); (case h => k_handed)))
  k_with "compareOp IsNot" => ((k_here; k_dflt (refine isNot_none (by assumption) ?_)))
  k_with "call builtin:str.format" => ((k_here; k_dflt (refine' line_use ?k1 ?k2 ?k3 ?k4 ?k5 ?k6 ?k7 ?_; (case k1 => assumption); (case k2 => k_asm); (case k3 => k_asm); (case k4 => exact rfl); (case k5 => exact rfl); (case k6 => exact Nat.le_of_ble_eq_true rfl); (case k7 => exact Nat.le_of_ble_eq_true rfl); k_whole; intro zqhp zqup zqtkp zqFp zqNp)))
  k_with "call builtin:str.format" => ((k_here; (with_reducible show wpAny _ _ (call (Value.builtin "str.format") [Value.str _ _, _, _, _, _]) _ _ _); k_dflt (refine' fmt_use ?k1 ?k2 ?k3 ?k4 ?k5 ?_; (case k1 => k_asm); (case k2 => k_asm); (case k3 => exact ⟨rfl, rfl, Nat.le_of_ble_eq_true rfl, Nat.le_of_ble_eq_true rfl⟩); (case k4 => exact args_5 _ _ _ _ _); (case k5 => walk_at "mine fmt")); k_whole; intro zqhp zqup zqtkp zqFp zqNp))
  k_with "pyReprObj" => ((k_here; k_dflt (refine' reprObj_use ?k1 ?k2 ?k3 ?k4 ?k5 ?k6 ?k7 ?_; (case k1 => assumption); (case k2 => k_asm); (case k3 => k_asm); (case k4 => exact rfl); (case k5 => exact rfl); (case k6 => exact Nat.le_of_ble_eq_true rfl); (case k7 => exact Nat.le_of_ble_eq_true rfl); k_whole; intro zqhp zqup zqtkp zqFp zqNp)))
  trivial
theorem layW02s_3 : True := by
  k_with "call ref" => ((refine haltw_ ?_))
  k_with "call builtin:isinstance" => ((k_here; refine haltw_ ?_))
  k_with "call builtin:str.join" => ((refine haltw_ ?_))
  k_with "call builtin:len" => ((k_here; refine haltw_ ?_))
  k_with "CompSrc" => ((with_reducible refine haltw_ ?_))
  k_with "SrcT" => ((with_reducible refine haltw_ ?_))
  k_with "SrcD" => ((with_reducible refine haltw_ ?_))
  k_with "subscriptTail" => ((k_here; refine haltw_ ?_))
  trivial
theorem wr_str : ∀ {p : Program} {loose : List Str} {mean : ExcName → Option Value} {mg mb : Str → Option Value} (w : World) (s : Shared) (x y : Nat) (hx : x ≤ 650) (hy : y ≤ 2400) (z : Str) (t : Tok) (h1 : Sg2 z) (h2 : z.length ≤ 4)
    (Q E : Value → Shared → Prop) (KX : (hz.heap_129 w.params).In s.heap) (T : Top p loose mean mg mb s.heap)
    (hQ : ∀ h' tk (u : Tok), Grow s.heap h' → Q (.str (reprText z) u) { s with heap := h', toks := tk }),
    wpAny (model PySem.Challenge.rw_dm0028_02.prog w) (AD x y) (call (.ref 87) [.str z t]) Q E s := by
  w_top off
  k_fill
  intro p loose mean mg mb w s x y hx hy z t h1 h2 Q E KX T hQ
  obtain ⟨hh, g, dr, tk, os⟩ := s
  dsimp only at KX T hQ
  w_strict (
  refine wpAny_call ?_
  k_dflt (refine' enter_newC (h₀ := hh) (binds := [("value", .str z t)]) ?k1 ?k2 KX T.nolimit ?k5 ?k6 ?k7 ?k8 ?kB ?kD ?_ ?c2 ?c3 ?c4; (case k5 => k_is); (case k6 => k_is); (case k7 => exact room_ hx); (case k8 => first | exact BindsTo.of_eq rfl | exact binds_K KX rfl (by k_is) rfl rfl rfl); (case kB => exact rfl); (case kD => decide +kernel); (case c2 => exact rfl); (case c3 => exact rfl); (case c4 => exact rfl); (case k1 => exact fun _ _ e => e); (case k2 => exact Nat.le_refl _))
  intro L' h' tk' cells' F' N' Y'
  k_cells Y'
  (try dsimp only)
  walk_at "mine texts"
  k_steps
  unfold Halt
  refine kia_one (K := KP2 w) kitx_str (Frag.In.keeps KX (Fr.keep (by k_asm))) trivial (by kernel_rfl : kitOne _ (.type "str") (.type "int") = some false) (by intro q; cases q) ?_
  intro tk1
  k_steps
  unfold Halt
  refine kia_one (K := KP2 w) kitx_str (Frag.In.keeps KX (Fr.keep (by k_asm))) trivial (by kernel_rfl : kitOne _ (.type "str") (.type "str") = some true) (by intro q; cases q) ?_
  intro tk2
  k_steps
  unfold Halt
  (with_reducible rename Fr _ _ _ _ => F3)
  (with_reducible rename News _ _ _ _ => N3)
  refine txt_use (fun Q E hQ => quot02 w _ z t h1 h2 Q E (Frag.In.keeps KX F3.keep) (Top.keeps (by assumption) F3.keep) hQ) F3 N3 rfl rfl (show x + 1 ≤ 700 by omega) (show y + 3 ≤ 2500 by omega) ?_
  intro h5 tk5 u5 F5 N5
  k_steps
  exact hQ _ _ _ (Fr.keep (by k_asm)))
end
section
theorem layW02l_1 : True := by
  k_with_none
  k_with "ne" => (with_reducible (first | exact ns1 | exact ns2 | exact qlt (by assumption) | exact qgt (by assumption) | exact qne (by assumption) | exact qen (by assumption) | exact rlt (by assumption) | exact rgt (by assumption) | exact rne (by assumption) | exact ren (by assumption) | exact qlt (And.right (by assumption)) | exact qgt (And.right (by assumption)) | exact qne (And.right (by assumption)) | exact qen (And.right (by assumption)) | exact rlt (And.right (by assumption)) | exact rgt (And.right (by assumption)) | exact rne (And.right (by assumption)) | exact ren (And.right (by assumption)) | exact qlt (And.right (And.right (by assumption))) | exact qgt (And.right (And.right (by assumption))) | exact qne (And.right (And.right (by assumption))) | exact qen (And.right (And.right (by assumption))) | exact rlt (And.right (And.right (by assumption))) | exact rgt (And.right (And.right (by assumption))) | exact rne (And.right (And.right (by assumption))) | exact ren (And.right (And.right (by assumption))) | exact qlt (And.right (And.right (And.right (by assumption)))) | exact qgt (And.right (And.right (And.right (by assumption)))) | exact qne (And.right (And.right (And.right (by assumption)))) | exact qen (And.right (And.right (And.right (by assumption)))) | exact rlt (And.right (And.right (And.right (by assumption)))) | exact rgt (And.right (And.right (And.right (by assumption)))) | exact rne (And.right (And.right (And.right (by assumption)))) | exact ren (And.right (And.right (And.right (by assumption)))) | exact qlt (And.right (And.right (And.right (And.right (by assumption))))) | exact qgt (And.right (And.right (And.right (And.right (by assumption))))) | exact qne (And.right (And.right (And.right (And.right (by assumption))))) | exact qen (And.right (And.right (And.right (And.right (by assumption))))) | exact rlt (And.right (And.right (And.right (And.right (by assumption))))) | exact rgt (And.right (And.right (And.right (And.right (by assumption))))) | exact rne (And.right (And.right (And.right (And.right (by assumption))))) | exact ren (And.right (And.right (And.right (And.right (by assumption))))) | exact qlt (And.right (And.right (And.right (And.right (And.right (by assumption)))))) | exact qgt (And.right (And.right (And.right (And.right (And.right (by assumption)))))) | exact qne (And.right (And.right (And.right (And.right (And.right (by assumption)))))) | exact qen (And.right (And.right (And.right (And.right (And.right (by assumption)))))) | exact rlt (And.right (And.right (And.right (And.right (And.right (by assumption)))))) | exact rgt (And.right (And.right (And.right (And.right (And.right (by assumption)))))) | exact rne (And.right (And.right (And.right (And.right (And.right (by assumption)))))) | exact ren (And.right (And.right (And.right (And.right (And.right (by assumption)))))) | exact qlt (And.right (And.right (And.right (And.right (And.right (And.right (by assumption))))))) | exact qgt (And.right (And.right (And.right (And.right (And.right (And.right (by assumption))))))) | exact qne (And.right (And.right (And.right (And.right (And.right (And.right (by assumption))))))) | exact qen (And.right (And.right (And.right (And.right (And.right (And.right (by assumption))))))) | exact rlt (And.right (And.right (And.right (And.right (And.right (And.right (by assumption))))))) | exact rgt (And.right (And.right (And.right (And.right (And.right (And.right (by assumption))))))) | exact rne (And.right (And.right (And.right (And.right (And.right (And.right (by assumption))))))) | exact ren (And.right (And.right (And.right (And.right (And.right (And.right (by assumption))))))) | exact qlt (And.right (And.right (And.right (And.right (And.right (And.right (And.right (by assumption)))))))) | exact qgt (And.right (And.right (And.right (And.right (And.right (And.right (And.right (by assumption)))))))) | exact qne (And.right (And.right (And.right (And.right (And.right (And.right (And.right (by assumption)))))))) | exact qen (And.right (And.right (And.right (And.right (And.right (And.right (And.right (by assumption)))))))) | exact rlt (And.right (And.right (And.right (And.right (And.right (And.right (And.right (by assumption)))))))) | exact rgt (And.right (And.right (And.right (And.right (And.right (And.right (And.right (by assumption)))))))) | exact rne (And.right (And.right (And.right (And.right (And.right (And.right (And.right (by assumption)))))))) | exact ren (And.right (And.right (And.right (And.right (And.right (And.right (And.right (by assumption)))))))) | exact qlt (And.right (And.right (And.right (And.right (And.right (And.right (And.right (And.right (by assumption))))))))) | exact qgt (And.right (And.right (And.right (And.right (And.right (And.right (And.right (And.right (by assumption))))))))) | exact qne (And.right (And.right (And.right (And.right (And.right (And.right (And.right (And.right (by assumption))))))))) | exact qen (And.right (And.right (And.right (And.right (And.right (And.right (And.right (And.right (by assumption))))))))) | exact rlt (And.right (And.right (And.right (And.right (And.right (And.right (And.right (And.right (by assumption))))))))) | exact rgt (And.right (And.right (And.right (And.right (And.right (And.right (And.right (And.right (by assumption))))))))) | exact rne (And.right (And.right (And.right (And.right (And.right (And.right (And.right (And.right (by assumption))))))))) | exact ren (And.right (And.right (And.right (And.right (And.right (And.right (And.right (And.right (by assumption))))))))) | exact qlt (And.right (And.right (And.right (And.right (And.right (And.right (And.right (And.right (And.right (by assumption)))))))))) | exact qgt (And.right (And.right (And.right (And.right (And.right (And.right (And.right (And.right (And.right (by assumption)))))))))) | exact qne (And.right (And.right (And.right (And.right (And.right (And.right (And.right (And.right (And.right (by assumption)))))))))) | exact qen (And.right (And.right (And.right (And.right (And.right (And.right (And.right (And.right (And.right (by assumption)))))))))) | exact rlt (And.right (And.right (And.right (And.right (And.right (And.right (And.right (And.right (And.right (by assumption)))))))))) | exact rgt (And.right (And.right (And.right (And.right (And.right (And.right (And.right (And.right (And.right (by assumption)))))))))) | exact rne (And.right (And.right (And.right (And.right (And.right (And.right (And.right (And.right (And.right (by assumption)))))))))) | exact ren (And.right (And.right (And.right (And.right (And.right (And.right (And.right (And.right (And.right (by assumption)))))))))) | exact qlt (And.right (And.right (And.right (And.right (And.right (And.right (And.right (And.right (And.right (And.right (by assumption))))))))))) | exact qgt (And.right (And.right (And.right (And.right (And.right (And.right (And.right (And.right (And.right (And.right (by assumption))))))))))) | exact qne (And.right (And.right (And.right (And.right (And.right (And.right (And.right (And.right (And.right (And.right (by assumption))))))))))) | exact qen (And.right (And.right (And.right (And.right (And.right (And.right (And.right (And.right (And.right (And.right (by assumption))))))))))) | exact rlt (And.right (And.right (And.right (And.right (And.right (And.right (And.right (And.right (And.right (And.right (by assumption))))))))))) | exact rgt (And.right (And.right (And.right (And.right (And.right (And.right (And.right (And.right (And.right (And.right (by assumption))))))))))) | exact rne (And.right (And.right (And.right (And.right (And.right (And.right (And.right (And.right (And.right (And.right (by assumption))))))))))) | exact ren (And.right (And.right (And.right (And.right (And.right (And.right (And.right (And.right (And.right (And.right (by assumption))))))))))) | exact qlt (And.right (And.right (And.right (And.right (And.right (And.right (And.right (And.right (And.right (And.right (And.right (by assumption)))))))))))) | exact qgt (And.right (And.right (And.right (And.right (And.right (And.right (And.right (And.right (And.right (And.right (And.right (by assumption)))))))))))) | exact qne (And.right (And.right (And.right (And.right (And.right (And.right (And.right (And.right (And.right (And.right (And.right (by assumption)))))))))))) | exact qen (And.right (And.right (And.right (And.right (And.right (And.right (And.right (And.right (And.right (And.right (And.right (by assumption)))))))))))) | exact rlt (And.right (And.right (And.right (And.right (And.right (And.right (And.right (And.right (And.right (And.right (And.right (by assumption)))))))))))) | exact rgt (And.right (And.right (And.right (And.right (And.right (And.right (And.right (And.right (And.right (And.right (And.right (by assumption)))))))))))) | exact rne (And.right (And.right (And.right (And.right (And.right (And.right (And.right (And.right (And.right (And.right (And.right (by assumption)))))))))))) | exact ren (And.right (And.right (And.right (And.right (And.right (And.right (And.right (And.right (And.right (And.right (And.right (by assumption)))))))))))) | exact qlt (And.right (And.right (And.right (And.right (And.right (And.right (And.right (And.right (And.right (And.right (And.right (And.right (by assumption))))))))))))) | exact qgt (And.right (And.right (And.right (And.right (And.right (And.right (And.right (And.right (And.right (And.right (And.right (And.right (by assumption))))))))))))) | exact qne (And.right (And.right (And.right (And.right (And.right (And.right (And.right (And.right (And.right (And.right (And.right (And.right (by assumption))))))))))))) | exact qen (And.right (And.right (And.right (And.right (And.right (And.right (And.right (And.right (And.right (And.right (And.right (And.right (by assumption))))))))))))) | exact rlt (And.right (And.right (And.right (And.right (And.right (And.right (And.right (And.right (And.right (And.right (And.right (And.right (by assumption))))))))))))) | exact rgt (And.right (And.right (And.right (And.right (And.right (And.right (And.right (And.right (And.right (And.right (And.right (And.right (by assumption))))))))))))) | exact rne (And.right (And.right (And.right (And.right (And.right (And.right (And.right (And.right (And.right (And.right (And.right (And.right (by assumption))))))))))))) | exact ren (And.right (And.right (And.right (And.right (And.right (And.right (And.right (And.right (And.right (And.right (And.right (And.right (by assumption))))))))))))) | exact qlt (And.right (And.right (And.right (And.right (And.right (And.right (And.right (And.right (And.right (And.right (And.right (And.right (And.right (by assumption)))))))))))))) | exact qgt (And.right (And.right (And.right (And.right (And.right (And.right (And.right (And.right (And.right (And.right (And.right (And.right (And.right (by assumption)))))))))))))) | exact qne (And.right (And.right (And.right (And.right (And.right (And.right (And.right (And.right (And.right (And.right (And.right (And.right (And.right (by assumption)))))))))))))) | exact qen (And.right (And.right (And.right (And.right (And.right (And.right (And.right (And.right (And.right (And.right (And.right (And.right (And.right (by assumption)))))))))))))) | exact rlt (And.right (And.right (And.right (And.right (And.right (And.right (And.right (And.right (And.right (And.right (And.right (And.right (And.right (by assumption)))))))))))))) | exact rgt (And.right (And.right (And.right (And.right (And.right (And.right (And.right (And.right (And.right (And.right (And.right (And.right (And.right (by assumption)))))))))))))) | exact rne (And.right (And.right (And.right (And.right (And.right (And.right (And.right (And.right (And.right (And.right (And.right (And.right (And.right (by assumption)))))))))))))) | exact ren (And.right (And.right (And.right (And.right (And.right (And.right (And.right (And.right (And.right (And.right (And.right (And.right (And.right (by assumption)))))))))))))) | exact qlt (And.right (And.right (And.right (And.right (And.right (And.right (And.right (And.right (And.right (And.right (And.right (And.right (And.right (And.right (by assumption))))))))))))))) | exact qgt (And.right (And.right (And.right (And.right (And.right (And.right (And.right (And.right (And.right (And.right (And.right (And.right (And.right (And.right (by assumption))))))))))))))) | exact qne (And.right (And.right (And.right (And.right (And.right (And.right (And.right (And.right (And.right (And.right (And.right (And.right (And.right (And.right (by assumption))))))))))))))) | exact qen (And.right (And.right (And.right (And.right (And.right (And.right (And.right (And.right (And.right (And.right (And.right (And.right (And.right (And.right (by assumption))))))))))))))) | exact rlt (And.right (And.right (And.right (And.right (And.right (And.right (And.right (And.right (And.right (And.right (And.right (And.right (And.right (And.right (by assumption))))))))))))))) | exact rgt (And.right (And.right (And.right (And.right (And.right (And.right (And.right (And.right (And.right (And.right (And.right (And.right (And.right (And.right (by assumption))))))))))))))) | exact rne (And.right (And.right (And.right (And.right (And.right (And.right (And.right (And.right (And.right (And.right (And.right (And.right (And.right (And.right (by assumption))))))))))))))) | exact ren (And.right (And.right (And.right (And.right (And.right (And.right (And.right (And.right (And.right (And.right (And.right (And.right (And.right (And.right (by assumption))))))))))))))) | exact qlt (And.right (And.right (And.right (And.right (And.right (And.right (And.right (And.right (And.right (And.right (And.right (And.right (And.right (And.right (And.right (by assumption)))))))))))))))) | exact qgt (And.right (And.right (And.right (And.right (And.right (And.right (And.right (And.right (And.right (And.right (And.right (And.right (And.right (And.right (And.right (by assumption)))))))))))))))) | exact qne (And.right (And.right (And.right (And.right (And.right (And.right (And.right (And.right (And.right (And.right (And.right (And.right (And.right (And.right (And.right (by assumption)))))))))))))))) | exact qen (And.right (And.right (And.right (And.right (And.right (And.right (And.right (And.right (And.right (And.right (And.right (And.right (And.right (And.right (And.right (by assumption)))))))))))))))) | exact rlt (And.right (And.right (And.right (And.right (And.right (And.right (And.right (And.right (And.right (And.right (And.right (And.right (And.right (And.right (And.right (by assumption)))))))))))))))) | exact rgt (And.right (And.right (And.right (And.right (And.right (And.right (And.right (And.right (And.right (And.right (And.right (And.right (And.right (And.right (And.right (by assumption)))))))))))))))) | exact rne (And.right (And.right (And.right (And.right (And.right (And.right (And.right (And.right (And.right (And.right (And.right (And.right (And.right (And.right (And.right (by assumption)))))))))))))))) | exact ren (And.right (And.right (And.right (And.right (And.right (And.right (And.right (And.right (And.right (And.right (And.right (And.right (And.right (And.right (And.right (by assumption))))))))))))))))))
  trivial
theorem layW02l_2 : True := by
  k_with "mine texts" => ((try dsimp only [← sx0, ← sx1, ← sx2, ← sx3, ← sx4, ← sx5, ← sx6, ← sx7, ← sx8, ← sx9, ← sx10, ← sx11, ← sx12, ← sx13, ← sx14, ← sx15, ← sx16, ← sx17, ← sx18, ← sx19, ← sx20, ← sx21, ← sx22, ← sx23, ← sx24, ← sx25, ← sx26, ← sx27, ← sx28, ← sx29, ← sx30, ← sx31, ← sx32, ← sx33, ← sx34, ← sx35, ← sx36, ← sx37, ← sx38, ← sx39, ← sx40, ← sx41, ← sx42, ← sx43, ← sx44, ← sx45, ← sx46, ← sx47, ← sx48, ← sx49, ← sx50, ← sx51, ← sx52, ← sx53, ← sx54, ← sx55, ← sx56, ← sx57, ← sx58, ← sx59, ← sx60, ← sx61, ← sx62, ← sx63, ← sx64, ← sx65, ← sx66, ← sx67, ← sx68, ← sx69, ← sx70, ← sx71, ← sx72, ← sx73, ← sx74, ← sx75, ← sx76, ← sx77, ← sx78, ← sx79, ← sx80, ← sx81, ← sx82, ← sx83, ← sx84, ← sx85, ← sx86, ← sx87, ← sx88, ← sx89, ← sx90, ← sx91, ← sx92]))
  k_with "mine drop" => (first | (refine' Drop.head ?a; (case a => k_all)) | (refine' Drop.tail ?a ?b; (case a => k_ne); (case b => walk_at "mine drop")))
  k_with "setAttr ref" => ((k_here; k_dflt (first | (refine' exc_set0 ?k1 ?k2 ?k3 ?k4 ?k5 ?k6 ?k7 ?k8 ?k9 ?_; (case k1 => k_asm); (case k2 => k_asm); (case k3 => k_asm); (case k4 => k_mem); (case k5 => k_is); (case k6 => kernel_rfl); (case k7 => k_is); (case k8 => k_is); (case k9 => intro zqd; k_upd); k_whole; intro zqdp zqhp zqFp zqNp zql1; (try k_lt zql1)) | (refine' exc_set_args ?k1 ?k2 ?k3 ?k4 ?k5 ?k6 ?k7 ?k8 ?k9 ?k10 ?_; (case k1 => k_asm); (case k2 => k_asm); (case k3 => k_asm); (case k4 => first | (refine' InstAt.of_exc ?N ?h1 ?h2; (case N => k_asm); (case h1 => k_mem); (case h2 => k_mem)) | (refine' InstAt.of_exc0 ?N ?h1; (case N => k_asm); (case h1 => k_mem))); (case k5 => exact isTup_of (by k_asm) (by k_mem)); (case k6 => k_is); (case k7 => kernel_rfl); (case k8 => k_is); (case k9 => k_is); (case k10 => k_upd); k_whole; intro zqhp zqFp zqNp) | (refine' exc_set ?k1 ?k2 ?k3 ?k4 ?k5 ?k6 ?k7 ?k8 ?k9 ?k10 ?k11 ?k12 ?_; (case k1 => k_asm); (case k2 => k_asm); (case k3 => k_asm); (case k4 => first | (refine' InstAt.of_exc ?N ?h1 ?h2; (case N => k_asm); (case h1 => k_mem); (case h2 => k_mem)) | (refine' InstAt.of_exc0 ?N ?h1; (case N => k_asm); (case h1 => k_mem))); (case k5 => k_is); (case k6 => kernel_rfl); (case k7 => k_is); (case k8 => k_is); (case k9 => k_get); (case k10 => k_put); (case k11 => k_upd); (case k12 => exact Nat.le_of_ble_eq_true rfl); k_whole; intro zqhp zqFp zqNp))))
  k_with "call builtin:Exception.__init__" => ((k_here; k_dflt (refine' exc_init_call ?k1 ?k2 ?k3 ?k4 ?k5 ?k6 ?_; (case k1 => k_asm); (case k2 => k_asm); (case k3 => k_asm); (case k4 => first | (refine' InstAt.of_exc ?N ?h1 ?h2; (case N => k_asm); (case h1 => k_mem); (case h2 => k_mem)) | (refine' InstAt.of_exc0 ?N ?h1; (case N => k_asm); (case h1 => k_mem))); (case k5 => k_is); (case k6 => intro zqt; k_upd); k_whole; intro zqtp zqhp zqFp zqNp zql1; (try k_lt zql1))))
  k_with "call builtin:repr" => ((k_here; k_dflt (refine' repr_use ?k1 ?k2 ?k3 ?k4 ?k5 ?k6 ?k7 ?_; (case k1 => assumption); (case k2 => k_asm); (case k3 => k_asm); (case k4 => exact rfl); (case k5 => exact rfl); (case k6 => exact Nat.le_of_ble_eq_true rfl); (case k7 => exact Nat.le_of_ble_eq_true rfl); k_whole; intro zqhp zqup zqtkp zqFp zqNp)))
  k_with "BackIn" => ((k_dflt (refine' back_ ?k1 ?k2 ?k3 ?_; (case k1 => k_asm); (case k2 => k_asm); (case k3 => walk_at "mine drop"); k_whole; intro zqFp zqNp; (try dsimp only))))
  k_with "call ref" => ((k_here; k_dflt (refine wpAny_call ?_; refine' enter_in ?k1 ?k2 ?k3 ?k4 ?k5 ?k6 ?k7 ?k8 ?kB ?c2 ?c3 ?c4 ?c5 ?_; (case k1 => k_asm); (case k2 => k_asm); (case k3 => k_asm); (case k4 => exact Top.nolimit (by assumption)); (case k5 => k_is); (case k6 => k_is); (case k7 => exact Nat.le_of_ble_eq_true rfl); (case k8 => first | ((with_reducible show BindsTo _ _ ⟨[_], []⟩ _); first | exact BindsTo.of_eq (binds := [(_, _)]) rfl | exact binds_K (binds := [(_, _)]) (by k_in) rfl (by k_is) rfl rfl rfl) | ((with_reducible show BindsTo _ _ ⟨[_, _], []⟩ _); first | exact BindsTo.of_eq (binds := [(_, _), (_, _)]) rfl | exact binds_K (binds := [(_, _), (_, _)]) (by k_in) rfl (by k_is) rfl rfl rfl) | ((with_reducible show BindsTo _ _ ⟨[_, _, _], []⟩ _); first | exact BindsTo.of_eq (binds := [(_, _), (_, _), (_, _)]) rfl | exact binds_K (binds := [(_, _), (_, _), (_, _)]) (by k_in) rfl (by k_is) rfl rfl rfl) | ((with_reducible show BindsTo _ _ ⟨[_, _, _, _], []⟩ _); first | exact BindsTo.of_eq (binds := [(_, _), (_, _), (_, _), (_, _)]) rfl | exact binds_K (binds := [(_, _), (_, _), (_, _), (_, _)]) (by k_in) rfl (by k_is) rfl rfl rfl) | ((with_reducible show BindsTo _ _ ⟨[_, _, _, _, _], []⟩ _); first | exact BindsTo.of_eq (binds := [(_, _), (_, _), (_, _), (_, _), (_, _)]) rfl | exact binds_K (binds := [(_, _), (_, _), (_, _), (_, _), (_, _)]) (by k_in) rfl (by k_is) rfl rfl rfl)); (case c5 => decide); (case kB => exact locs rfl); (case c2 => exact rfl); (case c3 => exact rfl); (case c4 => exact rfl); k_whole; intro zqoLp zqLp zqhp zqtkp zqFp zqNp zql1 zqn1; (try k_lt zql1); (try (replace zqn1 := allNe_of zqn1; simp only [AllNe, and_true] at zqn1)); (try dsimp only); walk_at "mine texts")))
  k_with "call builtin:str.join" => ((k_here; (with_reducible show wpAny _ _ (call (Value.builtin "str.join") [Value.str _ _, Value.ref _]) _ _ _); k_dflt (refine join_listC (by is_list) (by repeat constructor) (by decide) (by (simp only [List.map_cons, List.map_nil, List.sum_cons, List.sum_nil, List.length_cons, List.length_nil]; omega)) ?_); intro zqtp zqkp))
  k_with "getMethod type:Exception" => ((k_here; refine' method_type ?F ?X ?m (by decide +kernel) ?e ?h ?_; (case F => k_asm); (case X => k_asm); (case m => exact meta_Exception); (case e => k_dflt k_is); (case h => k_handed)))
  k_with "compareOp IsNot" => ((k_here; k_dflt (refine isNot_none (by assumption) ?_)))
  k_with "call builtin:str.format" => ((k_here; k_dflt (refine' line_use ?k1 ?k2 ?k3 ?k4 ?k5 ?k6 ?k7 ?_; (case k1 => assumption); (case k2 => k_asm); (case k3 => k_asm); (case k4 => exact rfl); (case k5 => exact rfl); (case k6 => exact Nat.le_of_ble_eq_true rfl); (case k7 => exact Nat.le_of_ble_eq_true rfl); k_whole; intro zqhp zqup zqtkp zqFp zqNp)))
  k_with "call builtin:str.format" => ((k_here; (with_reducible show wpAny _ _ (call (Value.builtin "str.format") [Value.str _ _, _, _, _, _]) _ _ _); k_dflt (refine' fmt_use ?k1 ?k2 ?k3 ?k4 ?k5 ?_; (case k1 => k_asm); (case k2 => k_asm); (case k3 => exact ⟨rfl, rfl, Nat.le_of_ble_eq_true rfl, Nat.le_of_ble_eq_true rfl⟩); (case k4 => exact args_5 _ _ _ _ _); (case k5 => walk_at "mine fmt")); k_whole; intro zqhp zqup zqtkp zqFp zqNp))
  k_with "pyReprObj" => ((k_here; k_dflt (refine' reprObj_use ?k1 ?k2 ?k3 ?k4 ?k5 ?k6 ?k7 ?_; (case k1 => assumption); (case k2 => k_asm); (case k3 => k_asm); (case k4 => exact rfl); (case k5 => exact rfl); (case k6 => exact Nat.le_of_ble_eq_true rfl); (case k7 => exact Nat.le_of_ble_eq_true rfl); k_whole; intro zqhp zqup zqtkp zqFp zqNp)))
  trivial
theorem layW02l_3 : True := by
  k_with "call ref" => ((refine haltw_ ?_))
  k_with "call builtin:isinstance" => ((k_here; refine haltw_ ?_))
  k_with "call builtin:str.join" => ((refine haltw_ ?_))
  k_with "call builtin:len" => ((k_here; refine haltw_ ?_))
  k_with "CompSrc" => ((with_reducible refine haltw_ ?_))
  k_with "SrcT" => ((with_reducible refine haltw_ ?_))
  k_with "SrcD" => ((with_reducible refine haltw_ ?_))
  k_with "subscriptTail" => ((k_here; refine haltw_ ?_))
  k_with "eval ListComp" => ((k_here; k_dflt (refine LCg.ListComp_U (F₀ := by k_asm) (by with_unfolding_all rfl) (by decide) (by rfl) (by decide) (by rfl) ?_)))
  trivial
theorem wr_list : ∀ {p : Program} {loose : List Str} {mean : ExcName → Option Value} {mg mb : Str → Option Value} (w : World) (s : Shared) (x y : Nat) (hx : x ≤ 650) (hy : y ≤ 2400) (ds : List PyData) (a : Addr) (vs : List Value) (n : Nat) (ha : s.heap.get? a = some (listOf vs.toArray n)) (hlen : vs.length = ds.length) (hl : vs.length ≤ 2) (IH : ∀ (i : Nat) v d, vs[i]? = some v → ds[i]? = some d → WrT w s.heap (x + 3) (y + 20) v d.shown) (hsh : ∀ t ∈ PyData.shownAll ds, t.length ≤ 5000)
    (Q E : Value → Shared → Prop) (KX : (hz.heap_129 w.params).In s.heap) (T : Top p loose mean mg mb s.heap)
    (hQ : ∀ h' tk (u : Tok), Grow s.heap h' → Q (.str (listText (PyData.shownAll ds)) u) { s with heap := h', toks := tk }),
    wpAny (model PySem.Challenge.rw_dm0028_02.prog w) (AD x y) (call (.ref 87) [.ref a]) Q E s := by
  w_top off
  k_fill
  intro p loose mean mg mb w s x y hx hy ds a vs n ha hlen hl IH hsh Q E KX T hQ
  obtain ⟨hh, g, dr, tk, os⟩ := s
  dsimp only at KX T ha IH hQ
  w_strict (
  refine wpAny_call ?_
  k_dflt (refine' enter_newC (h₀ := hh) (binds := [("value", .ref a)]) ?k1 ?k2 KX T.nolimit ?k5 ?k6 ?k7 ?k8 ?kB ?kD ?_ ?c2 ?c3 ?c4; (case k5 => k_is); (case k6 => k_is); (case k7 => exact room_ hx); (case k8 => first | exact BindsTo.of_eq rfl | exact binds_K KX rfl (by k_is) rfl rfl rfl); (case kB => exact rfl); (case kD => decide +kernel); (case c2 => exact rfl); (case c3 => exact rfl); (case c4 => exact rfl); (case k1 => exact fun _ _ e => e); (case k2 => exact Nat.le_refl _))
  intro L' h' tk' cells' F' N' Y'
  k_cells Y'
  (try dsimp only)
  walk_at "mine texts"
  k_steps
  unfold Halt
  refine kia_one (K := KP2 w) kitx_list (Frag.In.keeps KX (Fr.keep (by k_asm))) ⟨_, Fr.keep (by k_asm) _ _ ha, rfl⟩ (by kernel_rfl : kitOne _ (.type "list") (.type "int") = some false) (by intro q; cases q) ?_
  intro tk1
  k_steps
  unfold Halt
  refine kia_one (K := KP2 w) kitx_list (Frag.In.keeps KX (Fr.keep (by k_asm))) ⟨_, Fr.keep (by k_asm) _ _ ha, rfl⟩ (by kernel_rfl : kitOne _ (.type "list") (.type "str") = some false) (by intro q; cases q) ?_
  intro tk2
  k_steps
  unfold Halt
  refine kia_one (K := KP2 w) kitx_list (Frag.In.keeps KX (Fr.keep (by k_asm))) ⟨_, Fr.keep (by k_asm) _ _ ha, rfl⟩ (by kernel_rfl : kitOne _ (.type "list") (.type "dict") = some false) (by intro q; cases q) ?_
  intro tk3
  k_steps
  unfold Halt
  (with_reducible rename Fr _ _ _ _ => F3)
  (with_reducible rename News _ _ _ _ => N3)
  refine LCg.CompSrc.base (by rfl) F3 N3 ⟨_, ha, rfl, _, rfl⟩ (by rw [sizeLine_eq, List.size_toArray]; omega) ?_
  intro g4
  have hvz : vs.toArray.size = vs.length := List.size_toArray ..
  refine comp_rec2 (fun i ys => StrsAre ys ((PyData.shownAll ds).take i)) .nil (.inl ⟨_, ha, rfl, _, rfl⟩) ?zel ?zfin
  case zel =>
    intro i v ys I oI C oC D m2 hh' tkk E' hi hj hv hC' hx' F' N' off' ne' Qc hQc
    clear F3 N3
    have hvi : vs[i]? = some v := by simpa using hv
    have hdi : i < ds.length := by omega
    have hts := all_at (List.getElem?_eq_getElem hdi)
    k_steps
    unfold Halt
    (with_reducible rename Fr _ _ _ _ => F5)
    (with_reducible rename News _ _ _ _ => N5)
    refine wr_use (IH i v _ hvi (List.getElem?_eq_getElem hdi)) F5 N5 rfl rfl (show x + 1 ≤ x + 3 by omega) (show y + 3 ≤ y + 20 by omega) ?_
    intro h6 u6 tk6 F6 N6
    clear F5 N5
    k_steps
    refine hQc _ _ _ ?_ F6 N6
    rw [List.take_add_one, hts, Option.toList_some]
    exact strs_snoc2 hj
  case zfin =>
    intro ys hj
    rw [hvz, hlen, ← all_len, List.take_length] at hj
    intro D5 h5 tk5 F5 N5 off5
    clear F3 N3
    dsimp only
    k_steps
    unfold Halt
    (with_reducible rename Fr _ _ _ _ => F6)
    (with_reducible rename News _ _ _ _ => N6)
    have hsum := sum_small hsh
    rw [all_len] at hsum
    have hdl : ds.length ≤ 50 := by omega
    have hmul : ds.length * 5000 ≤ 50 * 5000 := Nat.mul_le_mul_right _ hdl
    refine join_listW (News.isList N6 (.head _)) (by simpa using hj) (by decide) (by rw [all_len]; omega) ?_
    intro t7 tk7
    have hjl := join_small hsh (by rw [all_len]; exact hdl)
    generalize hJ : Txt.join (Str.ofString ", ") (PyData.shownAll ds) = J at hjl ⊢
    k_steps
    unfold Halt
    refine kia_one (K := KP2 w) kitx_list (Frag.In.keeps KX (Fr.keep (by k_asm))) ⟨_, Fr.keep (by k_asm) _ _ ha, rfl⟩ (by kernel_rfl : kitOne _ (.type "list") (.type "list") = some true) (by intro q; cases q) ?_
    intro tk8
    k_steps
    subst hJ
    rw [list_text]
    exact hQ _ _ _ (Fr.keep (by k_asm)))
end
section
theorem layW02t_1 : True := by
  k_with_none
  k_with "ne" => (with_reducible (first | exact ns1 | exact ns2 | exact qlt (by assumption) | exact qgt (by assumption) | exact qne (by assumption) | exact qen (by assumption) | exact rlt (by assumption) | exact rgt (by assumption) | exact rne (by assumption) | exact ren (by assumption) | exact qlt (And.right (by assumption)) | exact qgt (And.right (by assumption)) | exact qne (And.right (by assumption)) | exact qen (And.right (by assumption)) | exact rlt (And.right (by assumption)) | exact rgt (And.right (by assumption)) | exact rne (And.right (by assumption)) | exact ren (And.right (by assumption)) | exact qlt (And.right (And.right (by assumption))) | exact qgt (And.right (And.right (by assumption))) | exact qne (And.right (And.right (by assumption))) | exact qen (And.right (And.right (by assumption))) | exact rlt (And.right (And.right (by assumption))) | exact rgt (And.right (And.right (by assumption))) | exact rne (And.right (And.right (by assumption))) | exact ren (And.right (And.right (by assumption))) | exact qlt (And.right (And.right (And.right (by assumption)))) | exact qgt (And.right (And.right (And.right (by assumption)))) | exact qne (And.right (And.right (And.right (by assumption)))) | exact qen (And.right (And.right (And.right (by assumption)))) | exact rlt (And.right (And.right (And.right (by assumption)))) | exact rgt (And.right (And.right (And.right (by assumption)))) | exact rne (And.right (And.right (And.right (by assumption)))) | exact ren (And.right (And.right (And.right (by assumption)))) | exact qlt (And.right (And.right (And.right (And.right (by assumption))))) | exact qgt (And.right (And.right (And.right (And.right (by assumption))))) | exact qne (And.right (And.right (And.right (And.right (by assumption))))) | exact qen (And.right (And.right (And.right (And.right (by assumption))))) | exact rlt (And.right (And.right (And.right (And.right (by assumption))))) | exact rgt (And.right (And.right (And.right (And.right (by assumption))))) | exact rne (And.right (And.right (And.right (And.right (by assumption))))) | exact ren (And.right (And.right (And.right (And.right (by assumption))))) | exact qlt (And.right (And.right (And.right (And.right (And.right (by assumption)))))) | exact qgt (And.right (And.right (And.right (And.right (And.right (by assumption)))))) | exact qne (And.right (And.right (And.right (And.right (And.right (by assumption)))))) | exact qen (And.right (And.right (And.right (And.right (And.right (by assumption)))))) | exact rlt (And.right (And.right (And.right (And.right (And.right (by assumption)))))) | exact rgt (And.right (And.right (And.right (And.right (And.right (by assumption)))))) | exact rne (And.right (And.right (And.right (And.right (And.right (by assumption)))))) | exact ren (And.right (And.right (And.right (And.right (And.right (by assumption)))))) | exact qlt (And.right (And.right (And.right (And.right (And.right (And.right (by assumption))))))) | exact qgt (And.right (And.right (And.right (And.right (And.right (And.right (by assumption))))))) | exact qne (And.right (And.right (And.right (And.right (And.right (And.right (by assumption))))))) | exact qen (And.right (And.right (And.right (And.right (And.right (And.right (by assumption))))))) | exact rlt (And.right (And.right (And.right (And.right (And.right (And.right (by assumption))))))) | exact rgt (And.right (And.right (And.right (And.right (And.right (And.right (by assumption))))))) | exact rne (And.right (And.right (And.right (And.right (And.right (And.right (by assumption))))))) | exact ren (And.right (And.right (And.right (And.right (And.right (And.right (by assumption))))))) | exact qlt (And.right (And.right (And.right (And.right (And.right (And.right (And.right (by assumption)))))))) | exact qgt (And.right (And.right (And.right (And.right (And.right (And.right (And.right (by assumption)))))))) | exact qne (And.right (And.right (And.right (And.right (And.right (And.right (And.right (by assumption)))))))) | exact qen (And.right (And.right (And.right (And.right (And.right (And.right (And.right (by assumption)))))))) | exact rlt (And.right (And.right (And.right (And.right (And.right (And.right (And.right (by assumption)))))))) | exact rgt (And.right (And.right (And.right (And.right (And.right (And.right (And.right (by assumption)))))))) | exact rne (And.right (And.right (And.right (And.right (And.right (And.right (And.right (by assumption)))))))) | exact ren (And.right (And.right (And.right (And.right (And.right (And.right (And.right (by assumption)))))))) | exact qlt (And.right (And.right (And.right (And.right (And.right (And.right (And.right (And.right (by assumption))))))))) | exact qgt (And.right (And.right (And.right (And.right (And.right (And.right (And.right (And.right (by assumption))))))))) | exact qne (And.right (And.right (And.right (And.right (And.right (And.right (And.right (And.right (by assumption))))))))) | exact qen (And.right (And.right (And.right (And.right (And.right (And.right (And.right (And.right (by assumption))))))))) | exact rlt (And.right (And.right (And.right (And.right (And.right (And.right (And.right (And.right (by assumption))))))))) | exact rgt (And.right (And.right (And.right (And.right (And.right (And.right (And.right (And.right (by assumption))))))))) | exact rne (And.right (And.right (And.right (And.right (And.right (And.right (And.right (And.right (by assumption))))))))) | exact ren (And.right (And.right (And.right (And.right (And.right (And.right (And.right (And.right (by assumption))))))))) | exact qlt (And.right (And.right (And.right (And.right (And.right (And.right (And.right (And.right (And.right (by assumption)))))))))) | exact qgt (And.right (And.right (And.right (And.right (And.right (And.right (And.right (And.right (And.right (by assumption)))))))))) | exact qne (And.right (And.right (And.right (And.right (And.right (And.right (And.right (And.right (And.right (by assumption)))))))))) | exact qen (And.right (And.right (And.right (And.right (And.right (And.right (And.right (And.right (And.right (by assumption)))))))))) | exact rlt (And.right (And.right (And.right (And.right (And.right (And.right (And.right (And.right (And.right (by assumption)))))))))) | exact rgt (And.right (And.right (And.right (And.right (And.right (And.right (And.right (And.right (And.right (by assumption)))))))))) | exact rne (And.right (And.right (And.right (And.right (And.right (And.right (And.right (And.right (And.right (by assumption)))))))))) | exact ren (And.right (And.right (And.right (And.right (And.right (And.right (And.right (And.right (And.right (by assumption)))))))))) | exact qlt (And.right (And.right (And.right (And.right (And.right (And.right (And.right (And.right (And.right (And.right (by assumption))))))))))) | exact qgt (And.right (And.right (And.right (And.right (And.right (And.right (And.right (And.right (And.right (And.right (by assumption))))))))))) | exact qne (And.right (And.right (And.right (And.right (And.right (And.right (And.right (And.right (And.right (And.right (by assumption))))))))))) | exact qen (And.right (And.right (And.right (And.right (And.right (And.right (And.right (And.right (And.right (And.right (by assumption))))))))))) | exact rlt (And.right (And.right (And.right (And.right (And.right (And.right (And.right (And.right (And.right (And.right (by assumption))))))))))) | exact rgt (And.right (And.right (And.right (And.right (And.right (And.right (And.right (And.right (And.right (And.right (by assumption))))))))))) | exact rne (And.right (And.right (And.right (And.right (And.right (And.right (And.right (And.right (And.right (And.right (by assumption))))))))))) | exact ren (And.right (And.right (And.right (And.right (And.right (And.right (And.right (And.right (And.right (And.right (by assumption))))))))))) | exact qlt (And.right (And.right (And.right (And.right (And.right (And.right (And.right (And.right (And.right (And.right (And.right (by assumption)))))))))))) | exact qgt (And.right (And.right (And.right (And.right (And.right (And.right (And.right (And.right (And.right (And.right (And.right (by assumption)))))))))))) | exact qne (And.right (And.right (And.right (And.right (And.right (And.right (And.right (And.right (And.right (And.right (And.right (by assumption)))))))))))) | exact qen (And.right (And.right (And.right (And.right (And.right (And.right (And.right (And.right (And.right (And.right (And.right (by assumption)))))))))))) | exact rlt (And.right (And.right (And.right (And.right (And.right (And.right (And.right (And.right (And.right (And.right (And.right (by assumption)))))))))))) | exact rgt (And.right (And.right (And.right (And.right (And.right (And.right (And.right (And.right (And.right (And.right (And.right (by assumption)))))))))))) | exact rne (And.right (And.right (And.right (And.right (And.right (And.right (And.right (And.right (And.right (And.right (And.right (by assumption)))))))))))) | exact ren (And.right (And.right (And.right (And.right (And.right (And.right (And.right (And.right (And.right (And.right (And.right (by assumption)))))))))))) | exact qlt (And.right (And.right (And.right (And.right (And.right (And.right (And.right (And.right (And.right (And.right (And.right (And.right (by assumption))))))))))))) | exact qgt (And.right (And.right (And.right (And.right (And.right (And.right (And.right (And.right (And.right (And.right (And.right (And.right (by assumption))))))))))))) | exact qne (And.right (And.right (And.right (And.right (And.right (And.right (And.right (And.right (And.right (And.right (And.right (And.right (by assumption))))))))))))) | exact qen (And.right (And.right (And.right (And.right (And.right (And.right (And.right (And.right (And.right (And.right (And.right (And.right (by assumption))))))))))))) | exact rlt (And.right (And.right (And.right (And.right (And.right (And.right (And.right (And.right (And.right (And.right (And.right (And.right (by assumption))))))))))))) | exact rgt (And.right (And.right (And.right (And.right (And.right (And.right (And.right (And.right (And.right (And.right (And.right (And.right (by assumption))))))))))))) | exact rne (And.right (And.right (And.right (And.right (And.right (And.right (And.right (And.right (And.right (And.right (And.right (And.right (by assumption))))))))))))) | exact ren (And.right (And.right (And.right (And.right (And.right (And.right (And.right (And.right (And.right (And.right (And.right (And.right (by assumption))))))))))))) | exact qlt (And.right (And.right (And.right (And.right (And.right (And.right (And.right (And.right (And.right (And.right (And.right (And.right (And.right (by assumption)))))))))))))) | exact qgt (And.right (And.right (And.right (And.right (And.right (And.right (And.right (And.right (And.right (And.right (And.right (And.right (And.right (by assumption)))))))))))))) | exact qne (And.right (And.right (And.right (And.right (And.right (And.right (And.right (And.right (And.right (And.right (And.right (And.right (And.right (by assumption)))))))))))))) | exact qen (And.right (And.right (And.right (And.right (And.right (And.right (And.right (And.right (And.right (And.right (And.right (And.right (And.right (by assumption)))))))))))))) | exact rlt (And.right (And.right (And.right (And.right (And.right (And.right (And.right (And.right (And.right (And.right (And.right (And.right (And.right (by assumption)))))))))))))) | exact rgt (And.right (And.right (And.right (And.right (And.right (And.right (And.right (And.right (And.right (And.right (And.right (And.right (And.right (by assumption)))))))))))))) | exact rne (And.right (And.right (And.right (And.right (And.right (And.right (And.right (And.right (And.right (And.right (And.right (And.right (And.right (by assumption)))))))))))))) | exact ren (And.right (And.right (And.right (And.right (And.right (And.right (And.right (And.right (And.right (And.right (And.right (And.right (And.right (by assumption)))))))))))))) | exact qlt (And.right (And.right (And.right (And.right (And.right (And.right (And.right (And.right (And.right (And.right (And.right (And.right (And.right (And.right (by assumption))))))))))))))) | exact qgt (And.right (And.right (And.right (And.right (And.right (And.right (And.right (And.right (And.right (And.right (And.right (And.right (And.right (And.right (by assumption))))))))))))))) | exact qne (And.right (And.right (And.right (And.right (And.right (And.right (And.right (And.right (And.right (And.right (And.right (And.right (And.right (And.right (by assumption))))))))))))))) | exact qen (And.right (And.right (And.right (And.right (And.right (And.right (And.right (And.right (And.right (And.right (And.right (And.right (And.right (And.right (by assumption))))))))))))))) | exact rlt (And.right (And.right (And.right (And.right (And.right (And.right (And.right (And.right (And.right (And.right (And.right (And.right (And.right (And.right (by assumption))))))))))))))) | exact rgt (And.right (And.right (And.right (And.right (And.right (And.right (And.right (And.right (And.right (And.right (And.right (And.right (And.right (And.right (by assumption))))))))))))))) | exact rne (And.right (And.right (And.right (And.right (And.right (And.right (And.right (And.right (And.right (And.right (And.right (And.right (And.right (And.right (by assumption))))))))))))))) | exact ren (And.right (And.right (And.right (And.right (And.right (And.right (And.right (And.right (And.right (And.right (And.right (And.right (And.right (And.right (by assumption))))))))))))))) | exact qlt (And.right (And.right (And.right (And.right (And.right (And.right (And.right (And.right (And.right (And.right (And.right (And.right (And.right (And.right (And.right (by assumption)))))))))))))))) | exact qgt (And.right (And.right (And.right (And.right (And.right (And.right (And.right (And.right (And.right (And.right (And.right (And.right (And.right (And.right (And.right (by assumption)))))))))))))))) | exact qne (And.right (And.right (And.right (And.right (And.right (And.right (And.right (And.right (And.right (And.right (And.right (And.right (And.right (And.right (And.right (by assumption)))))))))))))))) | exact qen (And.right (And.right (And.right (And.right (And.right (And.right (And.right (And.right (And.right (And.right (And.right (And.right (And.right (And.right (And.right (by assumption)))))))))))))))) | exact rlt (And.right (And.right (And.right (And.right (And.right (And.right (And.right (And.right (And.right (And.right (And.right (And.right (And.right (And.right (And.right (by assumption)))))))))))))))) | exact rgt (And.right (And.right (And.right (And.right (And.right (And.right (And.right (And.right (And.right (And.right (And.right (And.right (And.right (And.right (And.right (by assumption)))))))))))))))) | exact rne (And.right (And.right (And.right (And.right (And.right (And.right (And.right (And.right (And.right (And.right (And.right (And.right (And.right (And.right (And.right (by assumption)))))))))))))))) | exact ren (And.right (And.right (And.right (And.right (And.right (And.right (And.right (And.right (And.right (And.right (And.right (And.right (And.right (And.right (And.right (by assumption))))))))))))))))))
  trivial
theorem layW02t_2 : True := by
  k_with "mine texts" => ((try dsimp only [← sx0, ← sx1, ← sx2, ← sx3, ← sx4, ← sx5, ← sx6, ← sx7, ← sx8, ← sx9, ← sx10, ← sx11, ← sx12, ← sx13, ← sx14, ← sx15, ← sx16, ← sx17, ← sx18, ← sx19, ← sx20, ← sx21, ← sx22, ← sx23, ← sx24, ← sx25, ← sx26, ← sx27, ← sx28, ← sx29, ← sx30, ← sx31, ← sx32, ← sx33, ← sx34, ← sx35, ← sx36, ← sx37, ← sx38, ← sx39, ← sx40, ← sx41, ← sx42, ← sx43, ← sx44, ← sx45, ← sx46, ← sx47, ← sx48, ← sx49, ← sx50, ← sx51, ← sx52, ← sx53, ← sx54, ← sx55, ← sx56, ← sx57, ← sx58, ← sx59, ← sx60, ← sx61, ← sx62, ← sx63, ← sx64, ← sx65, ← sx66, ← sx67, ← sx68, ← sx69, ← sx70, ← sx71, ← sx72, ← sx73, ← sx74, ← sx75, ← sx76, ← sx77, ← sx78, ← sx79, ← sx80, ← sx81, ← sx82, ← sx83, ← sx84, ← sx85, ← sx86, ← sx87, ← sx88, ← sx89, ← sx90, ← sx91, ← sx92]))
  k_with "mine drop" => (first | (refine' Drop.head ?a; (case a => k_all)) | (refine' Drop.tail ?a ?b; (case a => k_ne); (case b => walk_at "mine drop")))
  k_with "setAttr ref" => ((k_here; k_dflt (first | (refine' exc_set0 ?k1 ?k2 ?k3 ?k4 ?k5 ?k6 ?k7 ?k8 ?k9 ?_; (case k1 => k_asm); (case k2 => k_asm); (case k3 => k_asm); (case k4 => k_mem); (case k5 => k_is); (case k6 => kernel_rfl); (case k7 => k_is); (case k8 => k_is); (case k9 => intro zqd; k_upd); k_whole; intro zqdp zqhp zqFp zqNp zql1; (try k_lt zql1)) | (refine' exc_set_args ?k1 ?k2 ?k3 ?k4 ?k5 ?k6 ?k7 ?k8 ?k9 ?k10 ?_; (case k1 => k_asm); (case k2 => k_asm); (case k3 => k_asm); (case k4 => first | (refine' InstAt.of_exc ?N ?h1 ?h2; (case N => k_asm); (case h1 => k_mem); (case h2 => k_mem)) | (refine' InstAt.of_exc0 ?N ?h1; (case N => k_asm); (case h1 => k_mem))); (case k5 => exact isTup_of (by k_asm) (by k_mem)); (case k6 => k_is); (case k7 => kernel_rfl); (case k8 => k_is); (case k9 => k_is); (case k10 => k_upd); k_whole; intro zqhp zqFp zqNp) | (refine' exc_set ?k1 ?k2 ?k3 ?k4 ?k5 ?k6 ?k7 ?k8 ?k9 ?k10 ?k11 ?k12 ?_; (case k1 => k_asm); (case k2 => k_asm); (case k3 => k_asm); (case k4 => first | (refine' InstAt.of_exc ?N ?h1 ?h2; (case N => k_asm); (case h1 => k_mem); (case h2 => k_mem)) | (refine' InstAt.of_exc0 ?N ?h1; (case N => k_asm); (case h1 => k_mem))); (case k5 => k_is); (case k6 => kernel_rfl); (case k7 => k_is); (case k8 => k_is); (case k9 => k_get); (case k10 => k_put); (case k11 => k_upd); (case k12 => exact Nat.le_of_ble_eq_true rfl); k_whole; intro zqhp zqFp zqNp))))
  k_with "call builtin:Exception.__init__" => ((k_here; k_dflt (refine' exc_init_call ?k1 ?k2 ?k3 ?k4 ?k5 ?k6 ?_; (case k1 => k_asm); (case k2 => k_asm); (case k3 => k_asm); (case k4 => first | (refine' InstAt.of_exc ?N ?h1 ?h2; (case N => k_asm); (case h1 => k_mem); (case h2 => k_mem)) | (refine' InstAt.of_exc0 ?N ?h1; (case N => k_asm); (case h1 => k_mem))); (case k5 => k_is); (case k6 => intro zqt; k_upd); k_whole; intro zqtp zqhp zqFp zqNp zql1; (try k_lt zql1))))
  k_with "call builtin:repr" => ((k_here; k_dflt (refine' repr_use ?k1 ?k2 ?k3 ?k4 ?k5 ?k6 ?k7 ?_; (case k1 => assumption); (case k2 => k_asm); (case k3 => k_asm); (case k4 => exact rfl); (case k5 => exact rfl); (case k6 => exact Nat.le_of_ble_eq_true rfl); (case k7 => exact Nat.le_of_ble_eq_true rfl); k_whole; intro zqhp zqup zqtkp zqFp zqNp)))
  k_with "BackIn" => ((k_dflt (refine' back_ ?k1 ?k2 ?k3 ?_; (case k1 => k_asm); (case k2 => k_asm); (case k3 => walk_at "mine drop"); k_whole; intro zqFp zqNp; (try dsimp only))))
  k_with "call ref" => ((k_here; k_dflt (refine wpAny_call ?_; refine' enter_in ?k1 ?k2 ?k3 ?k4 ?k5 ?k6 ?k7 ?k8 ?kB ?c2 ?c3 ?c4 ?c5 ?_; (case k1 => k_asm); (case k2 => k_asm); (case k3 => k_asm); (case k4 => exact Top.nolimit (by assumption)); (case k5 => k_is); (case k6 => k_is); (case k7 => exact Nat.le_of_ble_eq_true rfl); (case k8 => first | ((with_reducible show BindsTo _ _ ⟨[_], []⟩ _); first | exact BindsTo.of_eq (binds := [(_, _)]) rfl | exact binds_K (binds := [(_, _)]) (by k_in) rfl (by k_is) rfl rfl rfl) | ((with_reducible show BindsTo _ _ ⟨[_, _], []⟩ _); first | exact BindsTo.of_eq (binds := [(_, _), (_, _)]) rfl | exact binds_K (binds := [(_, _), (_, _)]) (by k_in) rfl (by k_is) rfl rfl rfl) | ((with_reducible show BindsTo _ _ ⟨[_, _, _], []⟩ _); first | exact BindsTo.of_eq (binds := [(_, _), (_, _), (_, _)]) rfl | exact binds_K (binds := [(_, _), (_, _), (_, _)]) (by k_in) rfl (by k_is) rfl rfl rfl) | ((with_reducible show BindsTo _ _ ⟨[_, _, _, _], []⟩ _); first | exact BindsTo.of_eq (binds := [(_, _), (_, _), (_, _), (_, _)]) rfl | exact binds_K (binds := [(_, _), (_, _), (_, _), (_, _)]) (by k_in) rfl (by k_is) rfl rfl rfl) | ((with_reducible show BindsTo _ _ ⟨[_, _, _, _, _], []⟩ _); first | exact BindsTo.of_eq (binds := [(_, _), (_, _), (_, _), (_, _), (_, _)]) rfl | exact binds_K (binds := [(_, _), (_, _), (_, _), (_, _), (_, _)]) (by k_in) rfl (by k_is) rfl rfl rfl)); (case c5 => decide); (case kB => exact locs rfl); (case c2 => exact rfl); (case c3 => exact rfl); (case c4 => exact rfl); k_whole; intro zqoLp zqLp zqhp zqtkp zqFp zqNp zql1 zqn1; (try k_lt zql1); (try (replace zqn1 := allNe_of zqn1; simp only [AllNe, and_true] at zqn1)); (try dsimp only); walk_at "mine texts")))
  k_with "call builtin:str.join" => ((k_here; (with_reducible show wpAny _ _ (call (Value.builtin "str.join") [Value.str _ _, Value.ref _]) _ _ _); k_dflt (refine join_listC (by is_list) (by repeat constructor) (by decide) (by (simp only [List.map_cons, List.map_nil, List.sum_cons, List.sum_nil, List.length_cons, List.length_nil]; omega)) ?_); intro zqtp zqkp))
  k_with "getMethod type:Exception" => ((k_here; refine' method_type ?F ?X ?m (by decide +kernel) ?e ?h ?_; (case F => k_asm); (case X => k_asm); (case m => exact meta_Exception); (case e => k_dflt k_is); (case h => k_handed)))
  k_with "compareOp IsNot" => ((k_here; k_dflt (refine isNot_none (by assumption) ?_)))
  k_with "call builtin:str.format" => ((k_here; k_dflt (refine' line_use ?k1 ?k2 ?k3 ?k4 ?k5 ?k6 ?k7 ?_; (case k1 => assumption); (case k2 => k_asm); (case k3 => k_asm); (case k4 => exact rfl); (case k5 => exact rfl); (case k6 => exact Nat.le_of_ble_eq_true rfl); (case k7 => exact Nat.le_of_ble_eq_true rfl); k_whole; intro zqhp zqup zqtkp zqFp zqNp)))
  k_with "call builtin:str.format" => ((k_here; (with_reducible show wpAny _ _ (call (Value.builtin "str.format") [Value.str _ _, _, _, _, _]) _ _ _); k_dflt (refine' fmt_use ?k1 ?k2 ?k3 ?k4 ?k5 ?_; (case k1 => k_asm); (case k2 => k_asm); (case k3 => exact ⟨rfl, rfl, Nat.le_of_ble_eq_true rfl, Nat.le_of_ble_eq_true rfl⟩); (case k4 => exact args_5 _ _ _ _ _); (case k5 => walk_at "mine fmt")); k_whole; intro zqhp zqup zqtkp zqFp zqNp))
  k_with "pyReprObj" => ((k_here; k_dflt (refine' reprObj_use ?k1 ?k2 ?k3 ?k4 ?k5 ?k6 ?k7 ?_; (case k1 => assumption); (case k2 => k_asm); (case k3 => k_asm); (case k4 => exact rfl); (case k5 => exact rfl); (case k6 => exact Nat.le_of_ble_eq_true rfl); (case k7 => exact Nat.le_of_ble_eq_true rfl); k_whole; intro zqhp zqup zqtkp zqFp zqNp)))
  trivial
theorem layW02t_3 : True := by
  k_with "call ref" => ((refine haltw_ ?_))
  k_with "call builtin:isinstance" => ((k_here; refine haltw_ ?_))
  k_with "call builtin:str.join" => ((refine haltw_ ?_))
  k_with "call builtin:len" => ((k_here; refine haltw_ ?_))
  k_with "CompSrc" => ((with_reducible refine haltw_ ?_))
  k_with "SrcT" => ((with_reducible refine haltw_ ?_))
  k_with "SrcD" => ((with_reducible refine haltw_ ?_))
  k_with "subscriptTail" => ((k_here; refine haltw_ ?_))
  k_with "eval ListComp" => ((k_here; k_dflt (refine ListComp_tup (F₀ := by k_asm) (by with_unfolding_all rfl) (by decide) (by rfl) (by decide) (by rfl) ?_)))
  trivial
theorem wr_tup : ∀ {p : Program} {loose : List Str} {mean : ExcName → Option Value} {mg mb : Str → Option Value} (w : World) (s : Shared) (x y : Nat) (hx : x ≤ 650) (hy : y ≤ 2400) (ds : List PyData) (a : Addr) (vs : List Value) (ha : s.heap.get? a = some (tupObj vs)) (hlen : vs.length = ds.length) (hl : vs.length ≤ 50) (IH : ∀ (i : Nat) v d, vs[i]? = some v → ds[i]? = some d → WrT w s.heap (x + 3) (y + 20) v d.shown) (hsh : ∀ t ∈ PyData.shownAll ds, t.length ≤ 5000)
    (Q E : Value → Shared → Prop) (KX : (hz.heap_129 w.params).In s.heap) (T : Top p loose mean mg mb s.heap)
    (hQ : ∀ h' tk (u : Tok), Grow s.heap h' → Q (.str (tupleText (PyData.shownAll ds)) u) { s with heap := h', toks := tk }),
    wpAny (model PySem.Challenge.rw_dm0028_02.prog w) (AD x y) (call (.ref 87) [.ref a]) Q E s := by
  w_top off
  k_fill
  intro p loose mean mg mb w s x y hx hy ds a vs ha hlen hl IH hsh Q E KX T hQ
  obtain ⟨hh, g, dr, tk, os⟩ := s
  dsimp only at KX T ha IH hQ
  w_strict (
  refine wpAny_call ?_
  k_dflt (refine' enter_newC (h₀ := hh) (binds := [("value", .ref a)]) ?k1 ?k2 KX T.nolimit ?k5 ?k6 ?k7 ?k8 ?kB ?kD ?_ ?c2 ?c3 ?c4; (case k5 => k_is); (case k6 => k_is); (case k7 => exact room_ hx); (case k8 => first | exact BindsTo.of_eq rfl | exact binds_K KX rfl (by k_is) rfl rfl rfl); (case kB => exact rfl); (case kD => decide +kernel); (case c2 => exact rfl); (case c3 => exact rfl); (case c4 => exact rfl); (case k1 => exact fun _ _ e => e); (case k2 => exact Nat.le_refl _))
  intro L' h' tk' cells' F' N' Y'
  k_cells Y'
  (try dsimp only)
  walk_at "mine texts"
  k_steps
  unfold Halt
  refine kia_one (K := KP2 w) kitx_tuple (Frag.In.keeps KX (Fr.keep (by k_asm))) ⟨_, Fr.keep (by k_asm) _ _ ha, rfl⟩ (by kernel_rfl : kitOne _ (.type "tuple") (.type "int") = some false) (by intro q; cases q) ?_
  intro tk1
  k_steps
  unfold Halt
  refine kia_one (K := KP2 w) kitx_tuple (Frag.In.keeps KX (Fr.keep (by k_asm))) ⟨_, Fr.keep (by k_asm) _ _ ha, rfl⟩ (by kernel_rfl : kitOne _ (.type "tuple") (.type "str") = some false) (by intro q; cases q) ?_
  intro tk2
  k_steps
  unfold Halt
  refine kia_one (K := KP2 w) kitx_tuple (Frag.In.keeps KX (Fr.keep (by k_asm))) ⟨_, Fr.keep (by k_asm) _ _ ha, rfl⟩ (by kernel_rfl : kitOne _ (.type "tuple") (.type "dict") = some false) (by intro q; cases q) ?_
  intro tk3
  k_steps
  unfold Halt
  (with_reducible rename Fr _ _ _ _ => F3)
  (with_reducible rename News _ _ _ _ => N3)
  refine srcT_base (by rfl) F3 N3 ⟨_, ha, rfl, _, rfl⟩ (by rw [sizeLine_eq, List.size_toArray]; omega) ?_
  intro g4
  have hvz : vs.toArray.size = vs.length := List.size_toArray ..
  refine comp_rec2 (fun i ys => StrsAre ys ((PyData.shownAll ds).take i)) .nil trivial ?zel ?zfin
  case zel =>
    intro i v ys I oI C oC D m2 hh' tkk E' hi hj hv hC' hx' F' N' off' ne' Qc hQc
    clear F3 N3
    have hvi : vs[i]? = some v := by simpa using hv
    have hdi : i < ds.length := by omega
    have hts := all_at (List.getElem?_eq_getElem hdi)
    k_steps
    unfold Halt
    (with_reducible rename Fr _ _ _ _ => F5)
    (with_reducible rename News _ _ _ _ => N5)
    refine wr_use (IH i v _ hvi (List.getElem?_eq_getElem hdi)) F5 N5 rfl rfl (show x + 1 ≤ x + 3 by omega) (show y + 3 ≤ y + 20 by omega) ?_
    intro h6 u6 tk6 F6 N6
    clear F5 N5
    k_steps
    refine hQc _ _ _ ?_ F6 N6
    rw [List.take_add_one, hts, Option.toList_some]
    exact strs_snoc2 hj
  case zfin =>
    intro ys hj
    rw [hvz, hlen, ← all_len, List.take_length] at hj
    intro D5 h5 tk5 F5 N5 off5
    clear F3 N3
    dsimp only
    k_steps
    unfold Halt
    (with_reducible rename Fr _ _ _ _ => F6)
    (with_reducible rename News _ _ _ _ => N6)
    have hsum := sum_small hsh
    rw [all_len] at hsum
    have hdl : ds.length ≤ 50 := by omega
    have hmul : ds.length * 5000 ≤ 50 * 5000 := Nat.mul_le_mul_right _ hdl
    refine join_listW (News.isList N6 (.head _)) (by simpa using hj) (by decide) (by rw [all_len]; omega) ?_
    intro t7 tk7
    have hjl := join_small hsh (by rw [all_len]; exact hdl)
    generalize hJ : Txt.join (Str.ofString ", ") (PyData.shownAll ds) = J at hjl ⊢
    k_steps
    unfold Halt
    refine kia_one (K := KP2 w) kitx_tuple (Frag.In.keeps KX (Fr.keep (by k_asm))) ⟨_, Fr.keep (by k_asm) _ _ ha, rfl⟩ (by kernel_rfl : kitOne _ (.type "tuple") (.type "list") = some false) (by intro q; cases q) ?_
    intro tk8
    k_steps
    unfold Halt
    refine len_tuple ⟨_, Fr.keep (by k_asm) _ _ ha, rfl, _, rfl⟩ (by rw [List.size_toArray]; omega) ?_
    k_steps
    · subst hJ
      rw [tup_text1 _ (by rw [all_len]; omega)]
      exact hQ _ _ _ (Fr.keep (by k_asm))
    · subst hJ
      rw [tup_text _ (by rw [all_len]; omega)]
      exact hQ _ _ _ (Fr.keep (by k_asm)))
end
section
theorem layW02d_1 : True := by
  k_with_none
  k_with "ne" => (with_reducible (first | exact ns1 | exact ns2 | exact qlt (by assumption) | exact qgt (by assumption) | exact qne (by assumption) | exact qen (by assumption) | exact rlt (by assumption) | exact rgt (by assumption) | exact rne (by assumption) | exact ren (by assumption) | exact qlt (And.right (by assumption)) | exact qgt (And.right (by assumption)) | exact qne (And.right (by assumption)) | exact qen (And.right (by assumption)) | exact rlt (And.right (by assumption)) | exact rgt (And.right (by assumption)) | exact rne (And.right (by assumption)) | exact ren (And.right (by assumption)) | exact qlt (And.right (And.right (by assumption))) | exact qgt (And.right (And.right (by assumption))) | exact qne (And.right (And.right (by assumption))) | exact qen (And.right (And.right (by assumption))) | exact rlt (And.right (And.right (by assumption))) | exact rgt (And.right (And.right (by assumption))) | exact rne (And.right (And.right (by assumption))) | exact ren (And.right (And.right (by assumption))) | exact qlt (And.right (And.right (And.right (by assumption)))) | exact qgt (And.right (And.right (And.right (by assumption)))) | exact qne (And.right (And.right (And.right (by assumption)))) | exact qen (And.right (And.right (And.right (by assumption)))) | exact rlt (And.right (And.right (And.right (by assumption)))) | exact rgt (And.right (And.right (And.right (by assumption)))) | exact rne (And.right (And.right (And.right (by assumption)))) | exact ren (And.right (And.right (And.right (by assumption)))) | exact qlt (And.right (And.right (And.right (And.right (by assumption))))) | exact qgt (And.right (And.right (And.right (And.right (by assumption))))) | exact qne (And.right (And.right (And.right (And.right (by assumption))))) | exact qen (And.right (And.right (And.right (And.right (by assumption))))) | exact rlt (And.right (And.right (And.right (And.right (by assumption))))) | exact rgt (And.right (And.right (And.right (And.right (by assumption))))) | exact rne (And.right (And.right (And.right (And.right (by assumption))))) | exact ren (And.right (And.right (And.right (And.right (by assumption))))) | exact qlt (And.right (And.right (And.right (And.right (And.right (by assumption)))))) | exact qgt (And.right (And.right (And.right (And.right (And.right (by assumption)))))) | exact qne (And.right (And.right (And.right (And.right (And.right (by assumption)))))) | exact qen (And.right (And.right (And.right (And.right (And.right (by assumption)))))) | exact rlt (And.right (And.right (And.right (And.right (And.right (by assumption)))))) | exact rgt (And.right (And.right (And.right (And.right (And.right (by assumption)))))) | exact rne (And.right (And.right (And.right (And.right (And.right (by assumption)))))) | exact ren (And.right (And.right (And.right (And.right (And.right (by assumption)))))) | exact qlt (And.right (And.right (And.right (And.right (And.right (And.right (by assumption))))))) | exact qgt (And.right (And.right (And.right (And.right (And.right (And.right (by assumption))))))) | exact qne (And.right (And.right (And.right (And.right (And.right (And.right (by assumption))))))) | exact qen (And.right (And.right (And.right (And.right (And.right (And.right (by assumption))))))) | exact rlt (And.right (And.right (And.right (And.right (And.right (And.right (by assumption))))))) | exact rgt (And.right (And.right (And.right (And.right (And.right (And.right (by assumption))))))) | exact rne (And.right (And.right (And.right (And.right (And.right (And.right (by assumption))))))) | exact ren (And.right (And.right (And.right (And.right (And.right (And.right (by assumption))))))) | exact qlt (And.right (And.right (And.right (And.right (And.right (And.right (And.right (by assumption)))))))) | exact qgt (And.right (And.right (And.right (And.right (And.right (And.right (And.right (by assumption)))))))) | exact qne (And.right (And.right (And.right (And.right (And.right (And.right (And.right (by assumption)))))))) | exact qen (And.right (And.right (And.right (And.right (And.right (And.right (And.right (by assumption)))))))) | exact rlt (And.right (And.right (And.right (And.right (And.right (And.right (And.right (by assumption)))))))) | exact rgt (And.right (And.right (And.right (And.right (And.right (And.right (And.right (by assumption)))))))) | exact rne (And.right (And.right (And.right (And.right (And.right (And.right (And.right (by assumption)))))))) | exact ren (And.right (And.right (And.right (And.right (And.right (And.right (And.right (by assumption)))))))) | exact qlt (And.right (And.right (And.right (And.right (And.right (And.right (And.right (And.right (by assumption))))))))) | exact qgt (And.right (And.right (And.right (And.right (And.right (And.right (And.right (And.right (by assumption))))))))) | exact qne (And.right (And.right (And.right (And.right (And.right (And.right (And.right (And.right (by assumption))))))))) | exact qen (And.right (And.right (And.right (And.right (And.right (And.right (And.right (And.right (by assumption))))))))) | exact rlt (And.right (And.right (And.right (And.right (And.right (And.right (And.right (And.right (by assumption))))))))) | exact rgt (And.right (And.right (And.right (And.right (And.right (And.right (And.right (And.right (by assumption))))))))) | exact rne (And.right (And.right (And.right (And.right (And.right (And.right (And.right (And.right (by assumption))))))))) | exact ren (And.right (And.right (And.right (And.right (And.right (And.right (And.right (And.right (by assumption))))))))) | exact qlt (And.right (And.right (And.right (And.right (And.right (And.right (And.right (And.right (And.right (by assumption)))))))))) | exact qgt (And.right (And.right (And.right (And.right (And.right (And.right (And.right (And.right (And.right (by assumption)))))))))) | exact qne (And.right (And.right (And.right (And.right (And.right (And.right (And.right (And.right (And.right (by assumption)))))))))) | exact qen (And.right (And.right (And.right (And.right (And.right (And.right (And.right (And.right (And.right (by assumption)))))))))) | exact rlt (And.right (And.right (And.right (And.right (And.right (And.right (And.right (And.right (And.right (by assumption)))))))))) | exact rgt (And.right (And.right (And.right (And.right (And.right (And.right (And.right (And.right (And.right (by assumption)))))))))) | exact rne (And.right (And.right (And.right (And.right (And.right (And.right (And.right (And.right (And.right (by assumption)))))))))) | exact ren (And.right (And.right (And.right (And.right (And.right (And.right (And.right (And.right (And.right (by assumption)))))))))) | exact qlt (And.right (And.right (And.right (And.right (And.right (And.right (And.right (And.right (And.right (And.right (by assumption))))))))))) | exact qgt (And.right (And.right (And.right (And.right (And.right (And.right (And.right (And.right (And.right (And.right (by assumption))))))))))) | exact qne (And.right (And.right (And.right (And.right (And.right (And.right (And.right (And.right (And.right (And.right (by assumption))))))))))) | exact qen (And.right (And.right (And.right (And.right (And.right (And.right (And.right (And.right (And.right (And.right (by assumption))))))))))) | exact rlt (And.right (And.right (And.right (And.right (And.right (And.right (And.right (And.right (And.right (And.right (by assumption))))))))))) | exact rgt (And.right (And.right (And.right (And.right (And.right (And.right (And.right (And.right (And.right (And.right (by assumption))))))))))) | exact rne (And.right (And.right (And.right (And.right (And.right (And.right (And.right (And.right (And.right (And.right (by assumption))))))))))) | exact ren (And.right (And.right (And.right (And.right (And.right (And.right (And.right (And.right (And.right (And.right (by assumption))))))))))) | exact qlt (And.right (And.right (And.right (And.right (And.right (And.right (And.right (And.right (And.right (And.right (And.right (by assumption)))))))))))) | exact qgt (And.right (And.right (And.right (And.right (And.right (And.right (And.right (And.right (And.right (And.right (And.right (by assumption)))))))))))) | exact qne (And.right (And.right (And.right (And.right (And.right (And.right (And.right (And.right (And.right (And.right (And.right (by assumption)))))))))))) | exact qen (And.right (And.right (And.right (And.right (And.right (And.right (And.right (And.right (And.right (And.right (And.right (by assumption)))))))))))) | exact rlt (And.right (And.right (And.right (And.right (And.right (And.right (And.right (And.right (And.right (And.right (And.right (by assumption)))))))))))) | exact rgt (And.right (And.right (And.right (And.right (And.right (And.right (And.right (And.right (And.right (And.right (And.right (by assumption)))))))))))) | exact rne (And.right (And.right (And.right (And.right (And.right (And.right (And.right (And.right (And.right (And.right (And.right (by assumption)))))))))))) | exact ren (And.right (And.right (And.right (And.right (And.right (And.right (And.right (And.right (And.right (And.right (And.right (by assumption)))))))))))) | exact qlt (And.right (And.right (And.right (And.right (And.right (And.right (And.right (And.right (And.right (And.right (And.right (And.right (by assumption))))))))))))) | exact qgt (And.right (And.right (And.right (And.right (And.right (And.right (And.right (And.right (And.right (And.right (And.right (And.right (by assumption))))))))))))) | exact qne (And.right (And.right (And.right (And.right (And.right (And.right (And.right (And.right (And.right (And.right (And.right (And.right (by assumption))))))))))))) | exact qen (And.right (And.right (And.right (And.right (And.right (And.right (And.right (And.right (And.right (And.right (And.right (And.right (by assumption))))))))))))) | exact rlt (And.right (And.right (And.right (And.right (And.right (And.right (And.right (And.right (And.right (And.right (And.right (And.right (by assumption))))))))))))) | exact rgt (And.right (And.right (And.right (And.right (And.right (And.right (And.right (And.right (And.right (And.right (And.right (And.right (by assumption))))))))))))) | exact rne (And.right (And.right (And.right (And.right (And.right (And.right (And.right (And.right (And.right (And.right (And.right (And.right (by assumption))))))))))))) | exact ren (And.right (And.right (And.right (And.right (And.right (And.right (And.right (And.right (And.right (And.right (And.right (And.right (by assumption))))))))))))) | exact qlt (And.right (And.right (And.right (And.right (And.right (And.right (And.right (And.right (And.right (And.right (And.right (And.right (And.right (by assumption)))))))))))))) | exact qgt (And.right (And.right (And.right (And.right (And.right (And.right (And.right (And.right (And.right (And.right (And.right (And.right (And.right (by assumption)))))))))))))) | exact qne (And.right (And.right (And.right (And.right (And.right (And.right (And.right (And.right (And.right (And.right (And.right (And.right (And.right (by assumption)))))))))))))) | exact qen (And.right (And.right (And.right (And.right (And.right (And.right (And.right (And.right (And.right (And.right (And.right (And.right (And.right (by assumption)))))))))))))) | exact rlt (And.right (And.right (And.right (And.right (And.right (And.right (And.right (And.right (And.right (And.right (And.right (And.right (And.right (by assumption)))))))))))))) | exact rgt (And.right (And.right (And.right (And.right (And.right (And.right (And.right (And.right (And.right (And.right (And.right (And.right (And.right (by assumption)))))))))))))) | exact rne (And.right (And.right (And.right (And.right (And.right (And.right (And.right (And.right (And.right (And.right (And.right (And.right (And.right (by assumption)))))))))))))) | exact ren (And.right (And.right (And.right (And.right (And.right (And.right (And.right (And.right (And.right (And.right (And.right (And.right (And.right (by assumption)))))))))))))) | exact qlt (And.right (And.right (And.right (And.right (And.right (And.right (And.right (And.right (And.right (And.right (And.right (And.right (And.right (And.right (by assumption))))))))))))))) | exact qgt (And.right (And.right (And.right (And.right (And.right (And.right (And.right (And.right (And.right (And.right (And.right (And.right (And.right (And.right (by assumption))))))))))))))) | exact qne (And.right (And.right (And.right (And.right (And.right (And.right (And.right (And.right (And.right (And.right (And.right (And.right (And.right (And.right (by assumption))))))))))))))) | exact qen (And.right (And.right (And.right (And.right (And.right (And.right (And.right (And.right (And.right (And.right (And.right (And.right (And.right (And.right (by assumption))))))))))))))) | exact rlt (And.right (And.right (And.right (And.right (And.right (And.right (And.right (And.right (And.right (And.right (And.right (And.right (And.right (And.right (by assumption))))))))))))))) | exact rgt (And.right (And.right (And.right (And.right (And.right (And.right (And.right (And.right (And.right (And.right (And.right (And.right (And.right (And.right (by assumption))))))))))))))) | exact rne (And.right (And.right (And.right (And.right (And.right (And.right (And.right (And.right (And.right (And.right (And.right (And.right (And.right (And.right (by assumption))))))))))))))) | exact ren (And.right (And.right (And.right (And.right (And.right (And.right (And.right (And.right (And.right (And.right (And.right (And.right (And.right (And.right (by assumption))))))))))))))) | exact qlt (And.right (And.right (And.right (And.right (And.right (And.right (And.right (And.right (And.right (And.right (And.right (And.right (And.right (And.right (And.right (by assumption)))))))))))))))) | exact qgt (And.right (And.right (And.right (And.right (And.right (And.right (And.right (And.right (And.right (And.right (And.right (And.right (And.right (And.right (And.right (by assumption)))))))))))))))) | exact qne (And.right (And.right (And.right (And.right (And.right (And.right (And.right (And.right (And.right (And.right (And.right (And.right (And.right (And.right (And.right (by assumption)))))))))))))))) | exact qen (And.right (And.right (And.right (And.right (And.right (And.right (And.right (And.right (And.right (And.right (And.right (And.right (And.right (And.right (And.right (by assumption)))))))))))))))) | exact rlt (And.right (And.right (And.right (And.right (And.right (And.right (And.right (And.right (And.right (And.right (And.right (And.right (And.right (And.right (And.right (by assumption)))))))))))))))) | exact rgt (And.right (And.right (And.right (And.right (And.right (And.right (And.right (And.right (And.right (And.right (And.right (And.right (And.right (And.right (And.right (by assumption)))))))))))))))) | exact rne (And.right (And.right (And.right (And.right (And.right (And.right (And.right (And.right (And.right (And.right (And.right (And.right (And.right (And.right (And.right (by assumption)))))))))))))))) | exact ren (And.right (And.right (And.right (And.right (And.right (And.right (And.right (And.right (And.right (And.right (And.right (And.right (And.right (And.right (And.right (by assumption))))))))))))))))))
  trivial
theorem layW02d_2 : True := by
  k_with "mine texts" => ((try dsimp only [← sx0, ← sx1, ← sx2, ← sx3, ← sx4, ← sx5, ← sx6, ← sx7, ← sx8, ← sx9, ← sx10, ← sx11, ← sx12, ← sx13, ← sx14, ← sx15, ← sx16, ← sx17, ← sx18, ← sx19, ← sx20, ← sx21, ← sx22, ← sx23, ← sx24, ← sx25, ← sx26, ← sx27, ← sx28, ← sx29, ← sx30, ← sx31, ← sx32, ← sx33, ← sx34, ← sx35, ← sx36, ← sx37, ← sx38, ← sx39, ← sx40, ← sx41, ← sx42, ← sx43, ← sx44, ← sx45, ← sx46, ← sx47, ← sx48, ← sx49, ← sx50, ← sx51, ← sx52, ← sx53, ← sx54, ← sx55, ← sx56, ← sx57, ← sx58, ← sx59, ← sx60, ← sx61, ← sx62, ← sx63, ← sx64, ← sx65, ← sx66, ← sx67, ← sx68, ← sx69, ← sx70, ← sx71, ← sx72, ← sx73, ← sx74, ← sx75, ← sx76, ← sx77, ← sx78, ← sx79, ← sx80, ← sx81, ← sx82, ← sx83, ← sx84, ← sx85, ← sx86, ← sx87, ← sx88, ← sx89, ← sx90, ← sx91, ← sx92]))
  k_with "mine drop" => (first | (refine' Drop.head ?a; (case a => k_all)) | (refine' Drop.tail ?a ?b; (case a => k_ne); (case b => walk_at "mine drop")))
  k_with "setAttr ref" => ((k_here; k_dflt (first | (refine' exc_set0 ?k1 ?k2 ?k3 ?k4 ?k5 ?k6 ?k7 ?k8 ?k9 ?_; (case k1 => k_asm); (case k2 => k_asm); (case k3 => k_asm); (case k4 => k_mem); (case k5 => k_is); (case k6 => kernel_rfl); (case k7 => k_is); (case k8 => k_is); (case k9 => intro zqd; k_upd); k_whole; intro zqdp zqhp zqFp zqNp zql1; (try k_lt zql1)) | (refine' exc_set_args ?k1 ?k2 ?k3 ?k4 ?k5 ?k6 ?k7 ?k8 ?k9 ?k10 ?_; (case k1 => k_asm); (case k2 => k_asm); (case k3 => k_asm); (case k4 => first | (refine' InstAt.of_exc ?N ?h1 ?h2; (case N => k_asm); (case h1 => k_mem); (case h2 => k_mem)) | (refine' InstAt.of_exc0 ?N ?h1; (case N => k_asm); (case h1 => k_mem))); (case k5 => exact isTup_of (by k_asm) (by k_mem)); (case k6 => k_is); (case k7 => kernel_rfl); (case k8 => k_is); (case k9 => k_is); (case k10 => k_upd); k_whole; intro zqhp zqFp zqNp) | (refine' exc_set ?k1 ?k2 ?k3 ?k4 ?k5 ?k6 ?k7 ?k8 ?k9 ?k10 ?k11 ?k12 ?_; (case k1 => k_asm); (case k2 => k_asm); (case k3 => k_asm); (case k4 => first | (refine' InstAt.of_exc ?N ?h1 ?h2; (case N => k_asm); (case h1 => k_mem); (case h2 => k_mem)) | (refine' InstAt.of_exc0 ?N ?h1; (case N => k_asm); (case h1 => k_mem))); (case k5 => k_is); (case k6 => kernel_rfl); (case k7 => k_is); (case k8 => k_is); (case k9 => k_get); (case k10 => k_put); (case k11 => k_upd); (case k12 => exact Nat.le_of_ble_eq_true rfl); k_whole; intro zqhp zqFp zqNp))))
  k_with "call builtin:Exception.__init__" => ((k_here; k_dflt (refine' exc_init_call ?k1 ?k2 ?k3 ?k4 ?k5 ?k6 ?_; (case k1 => k_asm); (case k2 => k_asm); (case k3 => k_asm); (case k4 => first | (refine' InstAt.of_exc ?N ?h1 ?h2; (case N => k_asm); (case h1 => k_mem); (case h2 => k_mem)) | (refine' InstAt.of_exc0 ?N ?h1; (case N => k_asm); (case h1 => k_mem))); (case k5 => k_is); (case k6 => intro zqt; k_upd); k_whole; intro zqtp zqhp zqFp zqNp zql1; (try k_lt zql1))))
  k_with "call builtin:repr" => ((k_here; k_dflt (refine' repr_use ?k1 ?k2 ?k3 ?k4 ?k5 ?k6 ?k7 ?_; (case k1 => assumption); (case k2 => k_asm); (case k3 => k_asm); (case k4 => exact rfl); (case k5 => exact rfl); (case k6 => exact Nat.le_of_ble_eq_true rfl); (case k7 => exact Nat.le_of_ble_eq_true rfl); k_whole; intro zqhp zqup zqtkp zqFp zqNp)))
  k_with "BackIn" => ((k_dflt (refine' back_ ?k1 ?k2 ?k3 ?_; (case k1 => k_asm); (case k2 => k_asm); (case k3 => walk_at "mine drop"); k_whole; intro zqFp zqNp; (try dsimp only))))
  k_with "call ref" => ((k_here; k_dflt (refine wpAny_call ?_; refine' enter_in ?k1 ?k2 ?k3 ?k4 ?k5 ?k6 ?k7 ?k8 ?kB ?c2 ?c3 ?c4 ?c5 ?_; (case k1 => k_asm); (case k2 => k_asm); (case k3 => k_asm); (case k4 => exact Top.nolimit (by assumption)); (case k5 => k_is); (case k6 => k_is); (case k7 => exact Nat.le_of_ble_eq_true rfl); (case k8 => first | ((with_reducible show BindsTo _ _ ⟨[_], []⟩ _); first | exact BindsTo.of_eq (binds := [(_, _)]) rfl | exact binds_K (binds := [(_, _)]) (by k_in) rfl (by k_is) rfl rfl rfl) | ((with_reducible show BindsTo _ _ ⟨[_, _], []⟩ _); first | exact BindsTo.of_eq (binds := [(_, _), (_, _)]) rfl | exact binds_K (binds := [(_, _), (_, _)]) (by k_in) rfl (by k_is) rfl rfl rfl) | ((with_reducible show BindsTo _ _ ⟨[_, _, _], []⟩ _); first | exact BindsTo.of_eq (binds := [(_, _), (_, _), (_, _)]) rfl | exact binds_K (binds := [(_, _), (_, _), (_, _)]) (by k_in) rfl (by k_is) rfl rfl rfl) | ((with_reducible show BindsTo _ _ ⟨[_, _, _, _], []⟩ _); first | exact BindsTo.of_eq (binds := [(_, _), (_, _), (_, _), (_, _)]) rfl | exact binds_K (binds := [(_, _), (_, _), (_, _), (_, _)]) (by k_in) rfl (by k_is) rfl rfl rfl) | ((with_reducible show BindsTo _ _ ⟨[_, _, _, _, _], []⟩ _); first | exact BindsTo.of_eq (binds := [(_, _), (_, _), (_, _), (_, _), (_, _)]) rfl | exact binds_K (binds := [(_, _), (_, _), (_, _), (_, _), (_, _)]) (by k_in) rfl (by k_is) rfl rfl rfl)); (case c5 => decide); (case kB => exact locs rfl); (case c2 => exact rfl); (case c3 => exact rfl); (case c4 => exact rfl); k_whole; intro zqoLp zqLp zqhp zqtkp zqFp zqNp zql1 zqn1; (try k_lt zql1); (try (replace zqn1 := allNe_of zqn1; simp only [AllNe, and_true] at zqn1)); (try dsimp only); walk_at "mine texts")))
  k_with "call builtin:str.join" => ((k_here; (with_reducible show wpAny _ _ (call (Value.builtin "str.join") [Value.str _ _, Value.ref _]) _ _ _); k_dflt (refine join_listC (by is_list) (by repeat constructor) (by decide) (by (simp only [List.map_cons, List.map_nil, List.sum_cons, List.sum_nil, List.length_cons, List.length_nil]; omega)) ?_); intro zqtp zqkp))
  k_with "getMethod type:Exception" => ((k_here; refine' method_type ?F ?X ?m (by decide +kernel) ?e ?h ?_; (case F => k_asm); (case X => k_asm); (case m => exact meta_Exception); (case e => k_dflt k_is); (case h => k_handed)))
  k_with "compareOp IsNot" => ((k_here; k_dflt (refine isNot_none (by assumption) ?_)))
  k_with "call builtin:str.format" => ((k_here; k_dflt (refine' line_use ?k1 ?k2 ?k3 ?k4 ?k5 ?k6 ?k7 ?_; (case k1 => assumption); (case k2 => k_asm); (case k3 => k_asm); (case k4 => exact rfl); (case k5 => exact rfl); (case k6 => exact Nat.le_of_ble_eq_true rfl); (case k7 => exact Nat.le_of_ble_eq_true rfl); k_whole; intro zqhp zqup zqtkp zqFp zqNp)))
  k_with "call builtin:str.format" => ((k_here; (with_reducible show wpAny _ _ (call (Value.builtin "str.format") [Value.str _ _, _, _, _, _]) _ _ _); k_dflt (refine' fmt_use ?k1 ?k2 ?k3 ?k4 ?k5 ?_; (case k1 => k_asm); (case k2 => k_asm); (case k3 => exact ⟨rfl, rfl, Nat.le_of_ble_eq_true rfl, Nat.le_of_ble_eq_true rfl⟩); (case k4 => exact args_5 _ _ _ _ _); (case k5 => walk_at "mine fmt")); k_whole; intro zqhp zqup zqtkp zqFp zqNp))
  k_with "pyReprObj" => ((k_here; k_dflt (refine' reprObj_use ?k1 ?k2 ?k3 ?k4 ?k5 ?k6 ?k7 ?_; (case k1 => assumption); (case k2 => k_asm); (case k3 => k_asm); (case k4 => exact rfl); (case k5 => exact rfl); (case k6 => exact Nat.le_of_ble_eq_true rfl); (case k7 => exact Nat.le_of_ble_eq_true rfl); k_whole; intro zqhp zqup zqtkp zqFp zqNp)))
  trivial
theorem layW02d_3 : True := by
  k_with "call ref" => ((refine haltw_ ?_))
  k_with "call builtin:isinstance" => ((k_here; refine haltw_ ?_))
  k_with "call builtin:str.join" => ((refine haltw_ ?_))
  k_with "call builtin:len" => ((k_here; refine haltw_ ?_))
  k_with "CompSrc" => ((with_reducible refine haltw_ ?_))
  k_with "SrcT" => ((with_reducible refine haltw_ ?_))
  k_with "SrcD" => ((with_reducible refine haltw_ ?_))
  k_with "subscriptTail" => ((k_here; refine haltw_ ?_))
  k_with "eval ListComp" => ((k_here; k_dflt (refine ListComp_dict (F₀ := by k_asm) (by with_unfolding_all rfl) (by decide) (by rfl) (by decide) (by rfl) ?_)))
  trivial
theorem wr_dict : ∀ {p : Program} {loose : List Str} {mean : ExcName → Option Value} {mg mb : Str → Option Value} (w : World) (s : Shared) (x y : Nat) (hx : x ≤ 650) (hy : y ≤ 2400) (D : List (PyData × PyData)) (a : Addr) (ep : Nat) (kvs : List (Int × Value)) (ha : s.heap.DictAt (intKind P02 w) a kvs ep) (ha1 : a ≠ 1) (hlen : kvs.length = (PyData.shownKv D).length) (hl : kvs.length ≤ 2) (IHk : ∀ (k : Int) (t : Tok), k.natAbs < 10 ^ 6 → WrT w s.heap (x + 3) (y + 20) (.int k t) (Str.ofString (toString k))) (IH : ∀ (i : Nat) (k : Int) v, kvs[i]? = some (k, v) → k.natAbs < 10 ^ 6 ∧ valueAt kvs k = some v ∧ ∃ t, (PyData.shownKv D)[i]? = some (Str.ofString (toString k) ++ Str.ofString ": " ++ t) ∧ t.length ≤ 4000 ∧ WrT w s.heap (x + 3) (y + 20) v t) (hsh : ∀ t ∈ PyData.shownKv D, t.length ≤ 5000)
    (Q E : Value → Shared → Prop) (KX : (hz.heap_129 w.params).In s.heap) (T : Top p loose mean mg mb s.heap)
    (hQ : ∀ h' tk (u : Tok), Grow s.heap h' → Q (.str (dictText (PyData.shownKv D)) u) { s with heap := h', toks := tk }),
    wpAny (model PySem.Challenge.rw_dm0028_02.prog w) (AD x y) (call (.ref 87) [.ref a]) Q E s := by
  w_top off
  k_fill
  intro p loose mean mg mb w s x y hx hy D a ep kvs ha ha1 hlen hl IHk IH hsh Q E KX T hQ
  obtain ⟨hh, g, dr, tk, os⟩ := s
  dsimp only at KX T ha IHk IH hQ
  w_strict (
  refine wpAny_call ?_
  k_dflt (refine' enter_newC (h₀ := hh) (binds := [("value", .ref a)]) ?k1 ?k2 KX T.nolimit ?k5 ?k6 ?k7 ?k8 ?kB ?kD ?_ ?c2 ?c3 ?c4; (case k5 => k_is); (case k6 => k_is); (case k7 => exact room_ hx); (case k8 => first | exact BindsTo.of_eq rfl | exact binds_K KX rfl (by k_is) rfl rfl rfl); (case kB => exact rfl); (case kD => decide +kernel); (case c2 => exact rfl); (case c3 => exact rfl); (case c4 => exact rfl); (case k1 => exact fun _ _ e => e); (case k2 => exact Nat.le_refl _))
  intro L' h' tk' cells' F' N' Y'
  k_cells Y'
  (try dsimp only)
  walk_at "mine texts"
  obtain ⟨oa, hao, haT⟩ : ∃ o, hh.get? a = some o ∧ o.cls = .type "dict" := by
    obtain ⟨o, es, h1, h2, _⟩ := ha
    exact ⟨o, h1, h2.1⟩
  k_steps
  unfold Halt
  refine kia_one (K := KP2 w) kitx_dict (Frag.In.keeps KX (Fr.keep (by k_asm))) ⟨_, Fr.keep (by k_asm) _ _ hao, haT⟩ (by kernel_rfl : kitOne _ (.type "dict") (.type "int") = some false) (by intro q; cases q) ?_
  intro tk1
  k_steps
  unfold Halt
  refine kia_one (K := KP2 w) kitx_dict (Frag.In.keeps KX (Fr.keep (by k_asm))) ⟨_, Fr.keep (by k_asm) _ _ hao, haT⟩ (by kernel_rfl : kitOne _ (.type "dict") (.type "str") = some false) (by intro q; cases q) ?_
  intro tk2
  k_steps
  unfold Halt
  refine kia_one (K := KP2 w) kitx_dict (Frag.In.keeps KX (Fr.keep (by k_asm))) ⟨_, Fr.keep (by k_asm) _ _ hao, haT⟩ (by kernel_rfl : kitOne _ (.type "dict") (.type "dict") = some true) (by intro q; cases q) ?_
  intro tk3
  k_steps
  unfold Halt
  (with_reducible rename Fr _ _ _ _ => F3)
  (with_reducible rename News _ _ _ _ => N3)
  refine srcD_base (by rfl) F3 N3 ha ha1 (by rw [sizeLine_eq]; omega) ?_
  intro g4
  refine comp_rec2 (fun i ys => StrsAre ys ((PyData.shownKv D).take i)) .nil trivial ?zel ?zfin
  case zel =>
    rintro i v ys I oI C oC De m2 hh' tkk E' hi hj ⟨k, v4, hkv, his⟩ hC' hx' F' N' off' ne' Qc hQc
    clear F3 N3
    obtain ⟨kt, rfl⟩ := Value.isInt_shape his
    obtain ⟨hk6, hva, t4, hts, htl, hw4⟩ := IH i k v4 hkv
    have hkl := fig_short hk6
    k_steps
    unfold Halt
    (with_reducible rename Fr _ _ _ _ => F5)
    (with_reducible rename News _ _ _ _ => N5)
    refine wr_use (IHk k kt hk6) F5 N5 rfl rfl (show x + 1 ≤ x + 3 by omega) (show y + 3 ≤ y + 20 by omega) ?_
    intro h6 u6 tk6 F6 N6
    clear F5 N5
    k_steps
    unfold Halt
    refine item_dict (Fr.keeps F6 (fun _ _ e => e)) ha hva ?_
    k_steps
    unfold Halt
    (with_reducible rename Fr _ _ _ _ => F7)
    (with_reducible rename News _ _ _ _ => N7)
    refine wr_use hw4 F7 N7 rfl rfl (show x + 1 ≤ x + 3 by omega) (show y + 3 ≤ y + 20 by omega) ?_
    intro h8 u8 tk8 F8 N8
    clear F7 N7
    k_steps
    (with_reducible rename Fr _ _ _ _ => F9)
    (with_reducible rename News _ _ _ _ => N9)
    refine hQc _ _ _ ?_ F9 N9
    rw [List.take_add_one, hts, Option.toList_some]
    exact strs_snoc2 hj
  case zfin =>
    intro ys hj
    rw [hlen, List.take_length] at hj
    intro D5 h5 tk5 F5 N5 off5
    clear F3 N3
    dsimp only
    k_steps
    unfold Halt
    (with_reducible rename Fr _ _ _ _ => F6)
    (with_reducible rename News _ _ _ _ => N6)
    have hsum := sum_small hsh
    have hdl : (PyData.shownKv D).length ≤ 50 := by omega
    have hmul : (PyData.shownKv D).length * 5000 ≤ 50 * 5000 := Nat.mul_le_mul_right _ hdl
    refine join_listW (News.isList N6 (.head _)) (by simpa using hj) (by decide) (by omega) ?_
    intro t7 tk7
    have hjl := join_small hsh hdl
    generalize hJ : Txt.join (Str.ofString ", ") (PyData.shownKv D) = J at hjl ⊢
    k_steps
    subst hJ
    rw [dict_text]
    exact hQ _ _ _ (Fr.keep (by k_asm)))
end
section
open PySem PySem.W PySem.Calls PyProof.Rows
set_option Elab.async false
set_option maxRecDepth 100000
set_option maxHeartbeats 4000000
set_option linter.unusedVariables false
theorem depth_mem : ∀ {ds : List PyData} {d : PyData}, d ∈ ds → d.depth ≤ PyData.depthAll ds
  | e :: ds, d, h => by
    simp only [PyData.depthAll]
    rcases List.mem_cons.mp h with rfl | h
    · exact Nat.le_max_left _ _
    · exact Nat.le_trans (depth_mem h) (Nat.le_max_right _ _)
theorem shown_mem : ∀ {ds : List PyData} {d : PyData}, d ∈ ds → d.shown ∈ PyData.shownAll ds
  | e :: ds, d, h => by
    simp only [PyData.shownAll]
    rcases List.mem_cons.mp h with rfl | h
    · exact .head _
    · exact .tail _ (shown_mem h)
section
variable {p : Program} {loose : List Str} {mean : ExcName → Option Value} {mg mb : Str → Option Value} {w : World} {hb : Heap} {x y : Nat}
theorem writ02 : ∀ (n : Nat) {hb : Heap} {v : Value} {d : PyData}, V2 w hb v d → d.depth ≤ n → n ≤ 60 → d.shown.length ≤ 4000 → (KP2 w).In hb → Top p loose mean mg mb hb → WrT w hb (650 - 3 * n) (2400 - 20 * n) v d.shown := by
  have T_none : ∀ {hb : Heap} {x y : Nat}, x ≤ 650 → y ≤ 2400 → (KP2 w).In hb → Top p loose mean mg mb hb → WrT w hb x y .none PyData.none.shown := fun hx hy KX T A s Q E a1 a2 a3 a4 g q => by
    simp only [PyData.shown] at q
    exact weaken a1 a2 a3 a4 (wr_none w s _ _ hx hy Q E (KX.keeps g) (T.keeps g) fun h' tk u g' => q h' u tk g')
  have T_bool : ∀ {hb : Heap} {x y : Nat} (b : Bool), x ≤ 650 → y ≤ 2400 → (KP2 w).In hb → Top p loose mean mg mb hb → WrT w hb x y (.bool b) (PyData.bool b).shown := fun b hx hy KX T A s Q E a1 a2 a3 a4 g q =>
    weaken a1 a2 a3 a4 (wr_bool w s _ _ hx hy b Q E (KX.keeps g) (T.keeps g) fun h' tk u g' => q h' u tk g')
  have T_int : ∀ {hb : Heap} {x y : Nat} (n : Int) (t : Tok), n.natAbs < 10 ^ 6 → x ≤ 650 → y ≤ 2400 → (KP2 w).In hb → Top p loose mean mg mb hb → WrT w hb x y (.int n t) (Str.ofString (toString n)) := fun n t h1 hx hy KX T A s Q E a1 a2 a3 a4 g q =>
    weaken a1 a2 a3 a4 (wr_int w s _ _ hx hy n t h1 Q E (KX.keeps g) (T.keeps g) fun h' tk u g' => q h' u tk g')
  have T_str : ∀ {hb : Heap} {x y : Nat} (z : Str) (t : Tok), Sg2 z → z.length ≤ 4 → x ≤ 650 → y ≤ 2400 → (KP2 w).In hb → Top p loose mean mg mb hb → WrT w hb x y (.str z t) (reprText z) := fun z t h1 h2 hx hy KX T A s Q E a1 a2 a3 a4 g q =>
    weaken a1 a2 a3 a4 (wr_str w s _ _ hx hy z t h1 h2 Q E (KX.keeps g) (T.keeps g) fun h' tk u g' => q h' u tk g')
  intro n
  induction n with
  | zero =>
    intro hb v d V hd _ _ KX T
    cases V with
    | none => exact T_none (by decide) (by decide) KX T
    | bool b => exact T_bool b (by decide) (by decide) KX T
    | int n t a => exact T_int n t a (by decide) (by decide) KX T
    | str x t a b => simp only [PyData.shown]; exact T_str x t a b (by decide) (by decide) KX T
    | _ => simp [PyData.depth] at hd
  | succ n ih =>
    intro hb v d V hd hn hz KX T
    have hx : 650 - 3 * (n + 1) ≤ 650 := Nat.sub_le _ _
    have hy : 2400 - 20 * (n + 1) ≤ 2400 := Nat.sub_le _ _
    have e1 : 650 - 3 * (n + 1) + 3 = 650 - 3 * n := by omega
    have e2 : 2400 - 20 * (n + 1) + 20 = 2400 - 20 * n := by omega
    cases V with
    | none => exact T_none hx hy KX T
    | bool b => exact T_bool b hx hy KX T
    | int n t a => exact T_int n t a hx hy KX T
    | str x t a b => simp only [PyData.shown]; exact T_str x t a b hx hy KX T
    | @list a vs nn ds h1 h2 h3 h4 h5 =>
      simp only [PyData.shown] at hz ⊢
      simp only [PyData.depth] at hd
      have hsh : ∀ t ∈ PyData.shownAll ds, t.length ≤ 4000 := fun t ht => Nat.le_trans (listText_mem_le ht) hz
      have IH : ∀ (i : Nat) v d, vs[i]? = some v → ds[i]? = some d → WrT w hb (650 - 3 * n) (2400 - 20 * n) v d.shown := fun i v d a b => by
        have hm := List.mem_of_getElem? b
        exact ih (h5 i v d a b) (Nat.le_trans (depth_mem hm) (by omega)) (by omega) (hsh _ (shown_mem hm)) KX T
      intro A s Q E a1 a2 a3 a4 g q
      exact weaken a1 a2 a3 a4 (wr_list w s _ _ hx hy ds a vs nn (g _ _ h1) h3 h4 (by rw [e1, e2]; exact fun i v d a b => (IH i v d a b).mono g) (fun t ht => Nat.le_trans (hsh t ht) (by decide)) Q E (KX.keeps g) (T.keeps g) fun h' tk u g' => q h' u tk g')
    | @tuple a vs ds h1 h3 h4 h5 =>
      simp only [PyData.shown] at hz ⊢
      simp only [PyData.depth] at hd
      have hsh : ∀ t ∈ PyData.shownAll ds, t.length ≤ 4000 := fun t ht => Nat.le_trans (tupleText_mem_le ht) hz
      have IH : ∀ (i : Nat) v d, vs[i]? = some v → ds[i]? = some d → WrT w hb (650 - 3 * n) (2400 - 20 * n) v d.shown := fun i v d a b => by
        have hm := List.mem_of_getElem? b
        exact ih (h5 i v d a b) (Nat.le_trans (depth_mem hm) (by omega)) (by omega) (hsh _ (shown_mem hm)) KX T
      intro A s Q E a1 a2 a3 a4 g q
      exact weaken a1 a2 a3 a4 (wr_tup w s _ _ hx hy ds a vs (g _ _ h1) h3 h4 (by rw [e1, e2]; exact fun i v d a b => (IH i v d a b).mono g) (fun t ht => Nat.le_trans (hsh t ht) (by decide)) Q E (KX.keeps g) (T.keeps g) fun h' tk u g' => q h' u tk g')
    | @dict0 a ep h1 h2 =>
      simp only [PyData.shown]
      intro A s Q E a1 a2 a3 a4 g q
      exact weaken a1 a2 a3 a4 (wr_dict w s _ _ hx hy [] a ep [] (h1.keep g) h2 rfl (Nat.le_of_ble_eq_true rfl) (by rw [e1, e2]; exact fun k t h => (T_int k t h (by omega) (by omega) KX T).mono g) (fun i k v hi => by simp at hi) (fun t ht => by simp [PyData.shownKv] at ht) Q E (KX.keeps g) (T.keeps g) fun h' tk u g' => q h' u tk g')
    | @dict1 a ep v d h1 h2 h3 =>
      simp only [PyData.shown] at hz ⊢
      simp only [PyData.depth, PyData.depthKv] at hd
      have hsh : ∀ t ∈ PyData.shownKv [(.int 0, d)], t.length ≤ 4000 := fun t ht => Nat.le_trans (dictText_mem_le ht) hz
      have hd1 : d.shown.length ≤ 4000 := by
        have := hsh _ (by simp only [PyData.shownKv]; exact .head _)
        rw [PySem.Str.length_append] at this; omega
      have c1 := ih h3 (by omega) (by omega) hd1 KX T
      intro A s Q E a1 a2 a3 a4 g q
      refine weaken a1 a2 a3 a4 (wr_dict w s _ _ hx hy [(.int 0, d)] a ep [((0 : Int), v)] (h1.keep g) h2 rfl (Nat.le_of_ble_eq_true rfl) (by rw [e1, e2]; exact fun k t h => (T_int k t h (by omega) (by omega) KX T).mono g) ?_ (fun t ht => Nat.le_trans (hsh t ht) (by decide)) Q E (KX.keeps g) (T.keeps g) fun h' tk u g' => q h' u tk g')
      rw [e1, e2]
      rintro (_ | i) k v hi
      · cases hi
        exact ⟨by decide, rfl, d.shown, rfl, hd1, c1.mono g⟩
      · simp at hi
    | @dict2 a ep v u d e h1 h2 h3 h4 =>
      simp only [PyData.shown] at hz ⊢
      simp only [PyData.depth, PyData.depthKv] at hd
      have hsh : ∀ t ∈ PyData.shownKv [(.int 0, d), (.int 1, e)], t.length ≤ 4000 := fun t ht => Nat.le_trans (dictText_mem_le ht) hz
      have hd1 : d.shown.length ≤ 4000 := by
        have := hsh _ (by simp only [PyData.shownKv]; exact .head _)
        rw [PySem.Str.length_append] at this; omega
      have hd2 : e.shown.length ≤ 4000 := by
        have := hsh _ (by simp only [PyData.shownKv]; exact .tail _ (.head _))
        rw [PySem.Str.length_append] at this; omega
      have c1 := ih h3 (by omega) (by omega) hd1 KX T
      have c2 := ih h4 (by omega) (by omega) hd2 KX T
      intro A s Q E a1 a2 a3 a4 g q
      refine weaken a1 a2 a3 a4 (wr_dict w s _ _ hx hy [(.int 0, d), (.int 1, e)] a ep [((0 : Int), v), ((1 : Int), u)] (h1.keep g) h2 rfl (Nat.le_of_ble_eq_true rfl) (by rw [e1, e2]; exact fun k t h => (T_int k t h (by omega) (by omega) KX T).mono g) ?_ (fun t ht => Nat.le_trans (hsh t ht) (by decide)) Q E (KX.keeps g) (T.keeps g) fun h' tk u g' => q h' u tk g')
      rw [e1, e2]
      rintro (_ | _ | i) k v hi
      · cases hi
        exact ⟨by decide, rfl, d.shown, rfl, hd1, c1.mono g⟩
      · cases hi
        exact ⟨by decide, rfl, e.shown, rfl, hd2, c2.mono g⟩
      · simp at hi
end
end
section
open PySem PySem.W PySem.Calls PyProof.Rows
set_option Elab.async false
set_option maxRecDepth 100000
set_option maxHeartbeats 4000000
set_option linter.unusedVariables false
/-- a ledger holds v, which is d -/
def RL (w : World) (led : List (Addr × Obj)) (v : Value) (d : PyData) : Prop := ∀ h : Heap, (∀ p ∈ led, h.get? p.1 = some p.2) → V2 w h v d
theorem RL.sub {w : World} {led led' : List (Addr × Obj)} {v : Value} {d : PyData} (r : RL w led v d) (s : ∀ p ∈ led, p ∈ led') : RL w led' v d := fun h a => r h fun p hp => a p (s p hp)
theorem RL.at {w : World} {led : List (Addr × Obj)} {v : Value} {d : PyData} {h₀ h : Heap} {L : Addr} (r : RL w led v d) (N : News h₀ L h led) : V2 w h v d := r h fun p hp => (N p hp).1
def wsum (ds : List PyData) : Nat := (ds.map fun d => d.shown.length + 2).sum
theorem wsum_append (a b : List PyData) : wsum (a ++ b) = wsum a + wsum b := by simp [wsum]
/-- the stack's values -/
structure Stk (w : World) (led : List (Addr × Obj)) (vs : List Value) (ds : List PyData) (i : Nat) : Prop where
  len : vs.length = ds.length
  ok : ∀ (j : Nat) v d, vs[j]? = some v → ds[j]? = some d → RL w led v d
  wt : wsum ds ≤ 5 + 30 * i
  dp : ∀ d ∈ ds, d.depth ≤ i
  cnt : vs.length ≤ i + 1
section
variable {w : World} {led led' : List (Addr × Obj)} {vs : List Value} {ds : List PyData} {i : Nat}
theorem Stk.sub (s : Stk w led vs ds i) (h : ∀ p ∈ led, p ∈ led') : Stk w led' vs ds i := ⟨s.len, fun j v d a b => (s.ok j v d a b).sub h, s.wt, s.dp, s.cnt⟩
theorem Stk.push {v : Value} {d : PyData} (s : Stk w led vs ds i) (r : RL w led v d) (hd : d.depth ≤ i + 1) (hl : d.shown.length ≤ 28) : Stk w led (vs ++ [v]) (ds ++ [d]) (i + 1) := by
  refine ⟨by simp [s.len], fun j u e a b => ?_, ?_, fun e he => ?_, by have := s.cnt; simp; omega⟩
  · rcases Nat.lt_trichotomy j vs.length with q | q | q
    · rw [List.getElem?_append_left q] at a
      rw [List.getElem?_append_left (by rw [← s.len]; exact q)] at b
      exact s.ok j u e a b
    · subst q
      rw [List.getElem?_append_right (Nat.le_refl _), Nat.sub_self] at a
      rw [s.len, List.getElem?_append_right (Nat.le_refl _), Nat.sub_self] at b
      cases a; cases b; exact r
    · rw [List.getElem?_eq_none (by simp; omega)] at a; cases a
  · rw [wsum_append]
    have := s.wt
    have : wsum [d] = d.shown.length + 2 := by simp [wsum]
    omega
  · rcases List.mem_append.mp he with he | he
    · exact Nat.le_succ_of_le (s.dp e he)
    · rw [List.mem_singleton.mp he]; exact hd
/-- the last k of the stack are put into one value -/
theorem Stk.fold {v : Value} {d : PyData} {k : Nat} (s : Stk w led vs ds i) (hk : k ≤ vs.length) (r : RL w led v d) (hd : d.depth ≤ PyData.depthAll (ds.drop (vs.length - k)) + 1) (hl : d.shown.length ≤ wsum (ds.drop (vs.length - k)) + 28) :
    Stk w led (vs.take (vs.length - k) ++ [v]) (ds.take (vs.length - k) ++ [d]) (i + 1) := by
  have hlen := s.len
  have hsp : wsum (ds.take (vs.length - k)) + wsum (ds.drop (vs.length - k)) = wsum ds := by rw [← wsum_append, List.take_append_drop]
  have hda : ∀ {l : List PyData}, (∀ e ∈ l, e.depth ≤ i) → PyData.depthAll l ≤ i := by
    intro l
    induction l with
    | nil => intro _; simp [PyData.depthAll]
    | cons e l ih =>
      intro h
      simp only [PyData.depthAll]
      exact Nat.max_le.mpr ⟨h e (.head _), ih fun x hx => h x (.tail _ hx)⟩
  refine ⟨by simp; omega, fun j u e a b => ?_, ?_, fun e he => ?_, by have := s.cnt; simp; omega⟩
  · have ht : (vs.take (vs.length - k)).length = vs.length - k := by simp
    have ht2 : (ds.take (vs.length - k)).length = vs.length - k := by simp; omega
    rcases Nat.lt_trichotomy j (vs.length - k) with q | q | q
    · rw [List.getElem?_append_left (by omega)] at a
      rw [List.getElem?_append_left (by omega)] at b
      rw [List.getElem?_take_of_lt q] at a b
      exact s.ok j u e a b
    · subst q
      rw [List.getElem?_append_right (by omega), ht, Nat.sub_self] at a
      rw [List.getElem?_append_right (by omega), ht2, Nat.sub_self] at b
      cases a; cases b; exact r
    · rw [List.getElem?_eq_none (by simp; omega)] at a; cases a
  · rw [wsum_append]
    have := s.wt
    have : wsum [d] = d.shown.length + 2 := by simp [wsum]
    omega
  · rcases List.mem_append.mp he with he | he
    · exact Nat.le_succ_of_le (s.dp e (List.mem_of_mem_take he))
    · rw [List.mem_singleton.mp he]
      have := hda (l := ds.drop (vs.length - k)) fun e he => s.dp e (List.mem_of_mem_drop he)
      omega
end
theorem pick_upto (vs : List Value) (k : Nat) (hk : k ≤ vs.length) : (slicePick vs.toArray none (some (k : Int)) none).toList = vs.take k := by
  have e : sliceBounds none (some (k : Int)) none vs.toArray.size = (((0 : Nat) : Int), ((k : Nat) : Int), 1) := by
    simp only [sliceBounds, Option.getD_none, show (1 : Int) > 0 by decide, if_true, if_neg (show ¬ ((k : Int) < 0) by omega), List.size_toArray]
    congr 1
    congr 1
    omega
  rw [kmk_pick_nat _ e]
  simp
theorem pick_from (vs : List Value) (k : Nat) (hk : k ≤ vs.length) : (slicePick vs.toArray (some (k : Int)) none none).toList = vs.drop k := by
  have e : sliceBounds (some (k : Int)) none none vs.toArray.size = (((k : Nat) : Int), ((vs.toArray.size : Nat) : Int), 1) := by
    simp only [sliceBounds, Option.getD_none, show (1 : Int) > 0 by decide, if_true, if_neg (show ¬ ((k : Int) < 0) by omega)]
    congr 1
    simp
    omega
  rw [kmk_pick_nat _ e]
  simp only [List.size_toArray]
  exact List.take_of_length_le (by simp)
theorem pick_last (vs : List Value) : (slicePick vs.toArray (some (-3)) none none).toList = vs.drop (vs.length - 3) := by
  have e : sliceBounds (some (-3)) none none vs.toArray.size = (((vs.length - 3 : Nat) : Int), ((vs.toArray.size : Nat) : Int), 1) := by
    simp only [sliceBounds, Option.getD_none, show (1 : Int) > 0 by decide, if_true, if_pos (show (-3 : Int) < 0 by decide)]
    congr 1
    simp
    omega
  rw [kmk_pick_nat _ e]
  simp only [List.size_toArray]
  exact List.take_of_length_le (by simp)
theorem piled_wsum : ∀ ds : List PyData, piled (PyData.shownAll ds) = wsum ds
  | [] => by simp [PyData.shownAll, piled, wsum]
  | d :: ds => by
    have := piled_wsum ds
    simp only [PyData.shownAll, piled_cons, this]
    simp [wsum]
theorem join_le (ts : List Str) : (Str.join ", " ts).length ≤ piled ts := by
  by_cases e : ts = []
  · subst e; exact Nat.zero_le _
  · have := join_length_add ts e; omega
theorem list_shown (ds : List PyData) : (PyData.list ds).shown.length ≤ wsum ds + 2 := by
  simp only [PyData.shown]
  rw [listText_eq_join, strLen_append, strLen_append]
  have := join_le (PyData.shownAll ds)
  rw [piled_wsum] at this
  have e1 : ("[" : Str).length = 1 := rfl
  have e2 : ("]" : Str).length = 1 := rfl
  omega
theorem tup_shown (ds : List PyData) : (PyData.tuple ds).shown.length ≤ wsum ds + 3 := by
  simp only [PyData.shown]
  unfold tupleText
  rw [strLen_append, strLen_append]
  have := join_le (PyData.shownAll ds)
  rw [piled_wsum] at this
  have e1 : ("(" : Str).length = 1 := rfl
  have e2 : (Str.ofString (if (PyData.shownAll ds).length == 1 then ",)" else ")" : String)).length ≤ 2 := by split <;> decide
  omega
theorem dict_shown : ∀ ds : List PyData, (PyData.dict (pairD ds)).shown.length ≤ wsum ds + 8 := by
  have k0 : (PyData.int 0).shown.length = 1 := by decide +kernel
  have k1 : (PyData.int 1).shown.length = 1 := by decide +kernel
  have c2 : (": " : Str).length = 2 := rfl
  intro ds
  simp only [PyData.shown]
  unfold dictText
  rw [strLen_append, strLen_append]
  have := join_le (PyData.shownKv (pairD ds))
  have e1 : ("{" : Str).length = 1 := rfl
  have e2 : ("}" : Str).length = 1 := rfl
  have hp : piled (PyData.shownKv (pairD ds)) ≤ wsum ds + 6 := by
    match ds with
    | [] => simp [pairD, PyData.shownKv, piled]
    | [a] =>
      simp only [pairD, PyData.shownKv, piled_cons, strLen_append, k0, c2]
      have : piled ([] : List Str) = 0 := rfl
      simp [wsum]; omega
    | a :: b :: r =>
      simp only [pairD, PyData.shownKv, piled_cons, strLen_append, k0, k1, c2]
      have : piled ([] : List Str) = 0 := rfl
      simp [wsum]; omega
  omega
theorem pair_depth : ∀ ds : List PyData, ds.length ≤ 2 → (PyData.dict (pairD ds)).depth ≤ PyData.depthAll ds + 1 := by
  intro ds h
  match ds with
  | [] => simp [pairD, PyData.depth, PyData.depthKv]
  | [a] => simp only [pairD, PyData.depth, PyData.depthKv, PyData.depthAll]; omega
  | [a, b] => simp only [pairD, PyData.depth, PyData.depthKv, PyData.depthAll]; omega
  | a :: b :: c :: r => simp at h
section
variable {w : World} {led : List (Addr × Obj)} {its : List Value} {ds : List PyData} {ta : Addr} {n : Nat}
theorem rl_list (hm : (ta, listOf its.toArray n) ∈ led) (h1 : ta ≠ 1) (hlen : its.length = ds.length) (h2 : its.length ≤ 2) (ok : ∀ (j : Nat) v d, its[j]? = some v → ds[j]? = some d → RL w led v d) : RL w led (.ref ta) (.list ds) :=
  fun h a => .list (a _ hm) h1 hlen h2 fun j v d x y => ok j v d x y h a
theorem rl_tup (hm : (ta, tupObj its) ∈ led) (hlen : its.length = ds.length) (h2 : its.length ≤ 50) (ok : ∀ (j : Nat) v d, its[j]? = some v → ds[j]? = some d → RL w led v d) : RL w led (.ref ta) (.tuple ds) :=
  fun h a => .tuple (a _ hm) hlen h2 fun j v d x y => ok j v d x y h a
theorem rl_dict {o : Obj} (hm : (ta, o) ∈ led) (hd : DictObj P02 w ta o its) (h1 : ta ≠ 1) (hlen : its.length = ds.length) (h2 : its.length ≤ 2) (ok : ∀ (j : Nat) v d, its[j]? = some v → ds[j]? = some d → RL w led v d) : RL w led (.ref ta) (.dict (pairD ds)) := by
  intro h a
  obtain ⟨ep, hd⟩ := hd
  have hD := hd h (a _ hm)
  match its, ds, hlen with
  | [], [], _ => exact .dict0 hD h1
  | [v], [d], _ => exact .dict1 hD h1 (ok 0 v d rfl rfl h a)
  | [v, u], [d, e], _ => exact .dict2 hD h1 (ok 0 v d rfl rfl h a) (ok 1 u e rfl rfl h a)
  | _ :: _ :: _ :: _, _, _ => simp at h2
theorem Stk.last {vs : List Value} {i k : Nat} (s : Stk w led vs ds i) : (vs.drop k).length = (ds.drop k).length ∧ ∀ (j : Nat) v d, (vs.drop k)[j]? = some v → (ds.drop k)[j]? = some d → RL w led v d :=
  ⟨by simp [s.len], fun j v d a b => s.ok (k + j) v d (by simpa using a) (by simpa using b)⟩
end
theorem Stk.up {w : World} {led : List (Addr × Obj)} {vs : List Value} {ds : List PyData} {i j : Nat} (s : Stk w led vs ds i) (h : i ≤ j) : Stk w led vs ds j := ⟨s.len, s.ok, by have := s.wt; omega, fun d hd => Nat.le_trans (s.dp d hd) h, by have := s.cnt; omega⟩
end
section
open PySem PySem.W PySem.Calls PyProof.Rows PySem.SeqAt
set_option Elab.async false
set_option maxRecDepth 100000
set_option maxHeartbeats 4000000
set_option linter.unusedVariables false
def stored02 : List Str := [Str.ofString "x", Str.ofString "kind", Str.ofString "rest", Str.ofString "size", Str.ofString "stack"]
section
variable {prog : Program} {w : World} {A : Around} {E : Value → Shared → Prop} {s : Shared} {env : Env} {h₀ : Heap} {L : Addr} {m : Str → Option Value}
/-- between the turns of the stack's loop -/
def J2 (w : World) (c : Addr) (m0 : Str → Option Value) (i : Nat) (m : Str → Option Value) (nx : List (Addr × Obj)) : Prop :=
  ∃ (sa : Addr) (vs : List Value) (ds : List PyData) (cn : Nat) (oc : Obj) (v0 : Option Value) (rest : List (Addr × Obj)),
    nx = (sa, listOf vs.toArray cn) :: (c, oc) :: rest ∧ oc.data = .cell v0 ∧ Stk w rest vs ds i ∧ (∀ p ∈ rest, p.1 ≠ sa ∧ p.1 ≠ c) ∧ sa ≠ c ∧ m (Str.ofString "stack") = some (.ref sa) ∧ ∀ z, stored02.contains z = false → m z = m0 z
theorem loop02 {l : Addr} {vs : List Value} {ns : List Int} {m₀ : Str → Option Value} {body : List Stmt} {Q : Flow → Shared → Prop} {c sa : Addr} {oc : Obj} {v0 : Option Value} {vs0 : List Value} {ds0 : List PyData} {cn : Nat} {rest0 : List (Addr × Obj)} (hh : A.handled = none) (hl : h₀.IsList l vs.toArray) (hi : IntsAre vs ns) (hlen : ns.length ≤ 40)
    (F : Fr h₀ env.locals s.heap m₀) (N : News h₀ env.locals s.heap ((sa, listOf vs0.toArray cn) :: (c, oc) :: rest0)) (hc : oc.data = .cell v0) (hS : Stk w rest0 vs0 ds0 0) (hne : ∀ p ∈ rest0, p.1 ≠ sa ∧ p.1 ≠ c) (hsc : sa ≠ c) (hm : m₀ (Str.ofString "stack") = some (.ref sa))
    (turn : ∀ (i : Nat) (n : Int) (t : Tok) (u : Str → Option Value) (h : Heap) (tk : Nat) (rest own : List (Addr × Obj)) (vs : List Value) (ds : List PyData) (sa : Addr) (cn : Nat) (oc : Obj) (v0 : Option Value), i < 40 → oc.data = .cell v0 → Stk w rest vs ds i → (∀ p ∈ rest ++ own, p.1 ≠ sa ∧ p.1 ≠ c) → sa ≠ c →
      Fr h₀ env.locals h (fun y => if y = Str.ofString "x" then some (.int n t) else if y = Str.ofString "stack" then some (.ref sa) else if stored02.contains y then u y else m₀ y) → News h₀ env.locals h ((sa, listOf vs.toArray cn) :: (c, oc) :: (rest ++ own)) →
      ∀ (Q' : Flow → Shared → Prop), (∀ (h' : Heap) (tk' : Nat) (m' : Str → Option Value) (new : List (Addr × Obj)) (vs' : List Value) (ds' : List PyData) (sa' : Addr) (cn' : Nat) (oc' : Obj) (v' : Option Value), Fr h₀ env.locals h' m' → m' (Str.ofString "stack") = some (.ref sa') → (∀ z, stored02.contains z = false → m' z = m₀ z) →
        News h₀ env.locals h' ((sa', listOf vs'.toArray cn') :: (c, oc') :: (new ++ (rest ++ own))) → oc'.data = .cell v' → Stk w (new ++ rest) vs' ds' (i + 1) → (∀ p ∈ new ++ (rest ++ own), p.1 ≠ sa' ∧ p.1 ≠ c) → sa' ≠ c → (∀ p ∈ new, ∀ q ∈ rest ++ own, q.1 ≠ p.1) → Q' .next { s with heap := h', toks := tk' }) →
      wpAny (model prog w) A (execs body env) Q' E { s with heap := h, toks := tk })
    (done : ∀ (m : Str → Option Value) (h : Heap) (tk : Nat) (rest : List (Addr × Obj)) (vs : List Value) (ds : List PyData) (sa : Addr) (cn : Nat) (oc : Obj) (i : Nat), i ≤ 40 → Stk w rest vs ds i → (∀ p ∈ rest, p.1 ≠ sa ∧ p.1 ≠ c) → sa ≠ c →
      Fr h₀ env.locals h (fun y => if y = Str.ofString "stack" then some (.ref sa) else m y) → News h₀ env.locals h ((sa, listOf vs.toArray cn) :: (c, oc) :: rest) → Q .next { s with heap := h, toks := tk }) :
    wpAny (model prog w) A (pyIter (.ref l)) (fun it s₂ => LoopAtV prog w A h₀ env (Str.ofString "x") body Q E it s₂) E s := by
  refine iter_invG (m₀ := m₀) (news := (sa, listOf vs0.toArray cn) :: (c, oc) :: rest0) (J2 w c m₀) hh hl hi F N ⟨sa, vs0, ds0, cn, oc, v0, rest0, rfl, hc, hS, hne, hsc, hm, fun _ _ => rfl⟩ ?_ ?_
  · rintro i n t m₁ news₁ h tk own hn _ hoff ⟨sa, vs, ds, cn, oc, v0, rest, rfl, hc, hS, hne, hsc, hm, hz⟩ F1 N1
    have hin : i < ns.length := by
      rcases Nat.lt_or_ge i ns.length with q | q
      · exact q
      · rw [List.getElem?_eq_none q] at hn; cases hn
    have hne2 : ∀ p ∈ rest ++ own, p.1 ≠ sa ∧ p.1 ≠ c := fun p hp => by
      rcases List.mem_append.mp hp with hp | hp
      · exact hne p hp
      · exact ⟨hoff p hp _ (.head _), hoff p hp _ (.tail _ (.head _))⟩
    have F2 : Fr h₀ env.locals h (fun y => if y = Str.ofString "x" then some (.int n t) else if y = Str.ofString "stack" then some (.ref sa) else if stored02.contains y then m₁ y else m₀ y) := by
      refine cast (congrArg (Fr h₀ env.locals h) (funext fun y => ?_)) F1
      by_cases h1 : y = Str.ofString "x"
      · rw [if_pos h1, if_pos h1]
      · rw [if_neg h1, if_neg h1]
        by_cases h2 : y = Str.ofString "stack"
        · rw [if_pos h2, h2, hm]
        · rw [if_neg h2]
          cases h3 : stored02.contains y with
          | true => rw [if_pos rfl]
          | false => rw [if_neg Bool.false_ne_true, hz y h3]
    refine turn i n t m₁ h tk rest own vs ds sa cn oc v0 (by omega) hc hS hne2 hsc F2 N1 _ ?_
    intro h' tk' m' new vs' ds' sa' cn' oc' v' F3 hm3 hz3 N3 hc3 hS3 hn1 hn2 hn3
    refine InvEndG.intro (nx := (sa', listOf vs'.toArray cn') :: (c, oc') :: (new ++ rest)) F3 N3 ⟨sa', vs', ds', cn', oc', v', new ++ rest, rfl, hc3, hS3, ?_, hn2, hm3, hz3⟩ ?_ ?_ ?_
    · intro p hp
      rcases List.mem_append.mp hp with hp | hp
      · exact hn1 p (List.mem_append_left _ hp)
      · exact hn1 p (List.mem_append_right _ (List.mem_append_left _ hp))
    · intro p hp b hb
      simp only [List.map_cons, List.map_append, List.mem_cons, List.mem_append, List.mem_map] at hb
      rcases hb with rfl | rfl | ⟨q, hq, rfl⟩ | ⟨q, hq, rfl⟩
      · exact (hn1 p (List.mem_append_right _ (List.mem_append_right _ hp))).1
      · exact (hn1 p (List.mem_append_right _ (List.mem_append_right _ hp))).2
      · exact hn3 q hq p (List.mem_append_right _ hp)
      · exact hoff p hp _ (.tail _ (.tail _ (List.mem_map.mpr ⟨q, hq, rfl⟩)))
    · intro p hp
      rcases List.mem_cons.mp hp with rfl | hp
      · exact .head _
      rcases List.mem_cons.mp hp with rfl | hp
      · exact .tail _ (.head _)
      rcases List.mem_append.mp hp with hp | hp
      · exact .tail _ (.tail _ (List.mem_append_left _ hp))
      · exact .tail _ (.tail _ (List.mem_append_right _ (List.mem_append_left _ hp)))
    · exact fun p hp => .tail _ (.tail _ (List.mem_append_right _ (List.mem_append_right _ hp)))
  · rintro m₁ news₁ h tk ⟨sa, vs, ds, cn, oc, v0, rest, rfl, hc, hS, hne, hsc, hm, hz⟩ F1 N1
    refine done m₁ h tk rest vs ds sa cn oc ns.length hlen hS hne hsc (cast (congrArg (Fr h₀ env.locals h) (funext fun y => ?_)) F1) N1
    by_cases h2 : y = Str.ofString "stack"
    · rw [if_pos h2, h2, hm]
    · rw [if_neg h2]
end
section
variable {prog : Program} {w : World} {A : Around} {E : Value → Shared → Prop} {s : Shared} {h₀ : Heap} {L : Addr} {m : Str → Option Value} {news : List (Addr × Obj)} {Q : Value → Shared → Prop}
theorem app_led {D : Addr} {us : List Value} {n : Nat} {v : Value} {r : List (Addr × Obj)} (F : Fr h₀ L s.heap m) (N : News h₀ L s.heap ((D, listOf us.toArray n) :: r)) (hne : ∀ p ∈ r, p.1 ≠ D) (hl : us.length ≤ 1000)
    (h : ∀ h', Fr h₀ L h' m → News h₀ L h' ((D, listOf (us ++ [v]).toArray (n + 1)) :: r) → Q .none { s with heap := h' }) : wpAny (model prog w) A (call (.builtin "list.append") [.ref D, v]) Q E s :=
  append_K F N (.head hne) (fun h' F' N' => h h' F' (by rw [← List.push_toArray]; exact N')) (by rw [sizeLine_eq, List.size_toArray]; omega)
theorem len_led {l : Addr} {vs : List Value} {n : Nat} (N : News h₀ L s.heap news) (hm : (l, listOf vs.toArray n) ∈ news) (hl : vs.length ≤ 1000)
    (h : ∀ t tk, Q (.int (vs.length : Int) t) { s with toks := tk }) : wpAny (model prog w) A (call (.builtin "len") [.ref l]) Q E s :=
  len_list (News.isList N hm) (by rw [List.size_toArray]; omega) (by rw [List.size_toArray]; exact h _ _)
theorem min_use {a : Int} {b : Nat} {t u : Tok} (F : Fr h₀ L s.heap m) (N : News h₀ L s.heap news) (hh : A.handled = none) (h0 : 0 ≤ a) (h1 : a < 3)
    (h : ∀ h' tk (k : Nat) t, k ≤ b → k ≤ 2 → Fr h₀ L h' m → News h₀ L h' news → Q (.int (k : Int) t) { s with heap := h', toks := tk }) : wpAny (model prog w) A (call (.builtin "min") [.int a t, .int (b : Int) u]) Q E s := by
  refine min_two_ints hh fun h' tk g => ?_
  obtain ⟨a, rfl⟩ := Int.eq_ofNat_of_zero_le h0
  by_cases c : (b : Int) < (a : Int)
  · rw [if_pos c]
    exact h h' tk b u (Nat.le_refl _) (by omega) (fr_grow F g) (news_grow N g)
  · rw [if_neg c]
    exact h h' tk a t (by omega) (by omega) (fr_grow F g) (news_grow N g)
theorem slice_from {value slice : PySem.Expr} {l : Addr} {vs : List Value} {n k : Nat} {j : Int} {u : Tok} (F : Fr h₀ L s.heap m) (N : News h₀ L s.heap news) (hm : (l, listOf vs.toArray n) ∈ news) (hk : k ≤ vs.length) (hj : j = (vs.length : Int) - (k : Int)) (hl : vs.length ≤ 1000)
    (h : ∀ D h', Fr h₀ L h' m → News h₀ L h' ((D, listOf (vs.drop (vs.length - k)).toArray 0) :: news) → (∀ p ∈ news, p.1 < D) → Q (.ref D) { s with heap := h' })
    (hs : subscripted slice false (.ref l) (.ref s.heap.objs.size) = operate [.ref s.heap.objs.size, .ref l] (getItem (.ref l) (.ref s.heap.objs.size)) := by with_unfolding_all rfl) (ht : ∀ r, letTemporaryGo value (.ref l) r = pure () := by intro _; with_unfolding_all rfl) :
    wpAny (model prog w) A (subscriptTail value slice (.ref l) (.ref s.heap.objs.size)) Q E { s with heap := s.heap.push { cls := .type "slice", data := .fields #[.int j u, .none, .none] } } :=
  kmk_slice_lit F N (News.isList N hm) (IsPart.int _ _) .none (by rw [hj, show (vs.length : Int) - (k : Int) = ((vs.length - k : Nat) : Int) by omega]; exact pick_from vs _ (Nat.sub_le _ _)) h hs ht (by rw [sizeLine_eq, List.size_toArray]; omega)
theorem slice_upto {value slice : PySem.Expr} {l : Addr} {vs : List Value} {n k : Nat} {j : Int} {u : Tok} (F : Fr h₀ L s.heap m) (N : News h₀ L s.heap news) (hm : (l, listOf vs.toArray n) ∈ news) (hk : k ≤ vs.length) (hj : j = (vs.length : Int) - (k : Int)) (hl : vs.length ≤ 1000)
    (h : ∀ D h', Fr h₀ L h' m → News h₀ L h' ((D, listOf (vs.take (vs.length - k)).toArray 0) :: news) → (∀ p ∈ news, p.1 < D) → Q (.ref D) { s with heap := h' })
    (hs : subscripted slice false (.ref l) (.ref s.heap.objs.size) = operate [.ref s.heap.objs.size, .ref l] (getItem (.ref l) (.ref s.heap.objs.size)) := by with_unfolding_all rfl) (ht : ∀ r, letTemporaryGo value (.ref l) r = pure () := by intro _; with_unfolding_all rfl) :
    wpAny (model prog w) A (subscriptTail value slice (.ref l) (.ref s.heap.objs.size)) Q E { s with heap := s.heap.push { cls := .type "slice", data := .fields #[.none, .int j u, .none] } } :=
  kmk_slice_lit F N (News.isList N hm) .none (IsPart.int _ _) (by rw [hj, show (vs.length : Int) - (k : Int) = ((vs.length - k : Nat) : Int) by omega]; exact pick_upto vs _ (Nat.sub_le _ _)) h hs ht (by rw [sizeLine_eq, List.size_toArray]; omega)
/-- the tuple of a list's items -/
theorem tup_use {l : Addr} {vs : List Value} {n : Nat} (F : Fr h₀ L s.heap m) (N : News h₀ L s.heap news) (hm : (l, listOf vs.toArray n) ∈ news) (hl : vs.length ≤ 1000)
    (h : ∀ D h', Fr h₀ L h' m → News h₀ L h' ((D, tupObj vs) :: news) → (∀ p ∈ news, p.1 < D) → Q (.ref D) { s with heap := h' }) : wpAny (model prog w) A (call (.type "tuple") [.ref l]) Q E s := by
  refine call_tuple_list (News.isList N hm) (fun h' g => ?_) (by rw [sizeLine_eq, List.size_toArray]; omega)
  have g' : Grow s.heap (h'.push (tupObj vs)) := fun b o e => Heap.get?_push_of_some _ (g b o e)
  refine h h'.objs.size _ (fr_grow F g') (fun p hp => ?_) (fun p hp => Heap.lt_size (g _ _ (N p hp).1))
  rcases List.mem_cons.mp hp with rfl | hp
  · refine ⟨Heap.get?_push_size _ rfl, ?_, ?_⟩
    · obtain ⟨o, _, _, hL, _⟩ := F.ns
      exact Ne.symm (Nat.ne_of_lt (Heap.lt_size (g _ _ hL)))
    · cases q : h₀.get? h'.objs.size with
      | none => rfl
      | some o => exact absurd (Heap.lt_size (g _ _ (F.keep _ _ q))) (Nat.lt_irrefl _)
  · exact news_grow N g' p hp
theorem str_use2 {f : Value} {vs : List Value} {d u : Nat} {P : Str → Prop} (c : ∀ Q E, (∀ h' tk x u, Grow s.heap h' → P x → Q (.str x u) { s with heap := h', toks := tk }) → wpAny (model prog w) (AD d u) (call f vs) Q E s)
    (F : Fr h₀ L s.heap m) (N : News h₀ L s.heap news) (h1 : A.handled = none) (h2 : A.guards = some []) (h3 : A.depth ≤ d) (h4 : A.units ≤ u)
    (h : ∀ h' tk x u, P x → Fr h₀ L h' m → News h₀ L h' news → Q (.str x u) { s with heap := h', toks := tk }) : wpAny (model prog w) A (call f vs) Q E s :=
  weaken h1 h2 h3 h4 (c Q E fun h' tk x u g p => h h' tk x u p (fr_grow F g) (news_grow N g))
end
theorem small_int {a : Int} (h0 : 0 ≤ a) (h1 : a < 10 ^ 6) : a.natAbs < 10 ^ 6 ∧ (-a).natAbs < 10 ^ 6 := by omega
theorem rl_none {w : World} {led : List (Addr × Obj)} : RL w led .none .none := fun _ _ => .none
theorem rl_bool {w : World} {led : List (Addr × Obj)} {b : Bool} : RL w led (.bool b) (.bool b) := fun _ _ => .bool b
theorem rl_int {w : World} {led : List (Addr × Obj)} {n : Int} {t : Tok} (h : n.natAbs < 10 ^ 6) : RL w led (.int n t) (.int n) := fun _ _ => .int n t h
theorem rl_str {w : World} {led : List (Addr × Obj)} {x : Str} {t : Tok} (h : Sg2 x) (hl : x.length ≤ 4) : RL w led (.str x t) (.str x) := fun _ _ => .str x t h hl
theorem sh_bool (b : Bool) : (PyData.bool b).shown.length ≤ 28 := by cases b <;> decide +kernel
theorem sh_none : PyData.none.shown.length ≤ 28 := by decide +kernel
theorem sh_int {n : Int} (h : n.natAbs < 10 ^ 6) : (PyData.int n).shown.length ≤ 28 := by
  have h1 := digits10_le (k := 6) (by decide) h
  have h2 : (figN n.natAbs).length ≤ 8 := by
    show ((Nat.toDigits 10 n.natAbs).map Char.toNat).toArray.size ≤ 8
    simp; omega
  show (Str.ofString (toString n)).length ≤ 28
  by_cases hk : n < 0
  · rw [← fig_neg hk, PySem.Str.length_append]
    have : (Str.ofString "-").length = 1 := rfl
    omega
  · rw [← fig_pos hk]; omega
theorem sh_str {x : Str} (h : Sg2 x) (hl : x.length ≤ 4) : (PyData.str x).shown.length ≤ 28 := by
  have := repr2_len h
  simp only [PyData.shown]
  omega
theorem ne_one {w : World} {h₀ h : Heap} {L : Addr} {news : List (Addr × Obj)} (X : (KP2 w).In h₀) (N : News h₀ L h news) : ∀ p ∈ news, p.1 ≠ 1 := fun p hp e => by
  have h1 : ((KP2 w).lookup 1).isSome = true := by kernel_rfl
  obtain ⟨o, ho⟩ := Option.isSome_iff_exists.mp h1
  have := X 1 o ho
  rw [← e, (N p hp).2.2] at this
  cases this
theorem perm2 {h₀ h : Heap} {L : Addr} {a b c d : Addr × Obj} {r : List (Addr × Obj)} (N : News h₀ L h (a :: b :: c :: d :: r)) : News h₀ L h (a :: d :: ([b, c] ++ r)) := fun p hp => N p (by
  simp only [List.mem_cons, List.cons_append, List.nil_append] at hp ⊢
  rcases hp with h | h | h | h | h <;> simp [h])
theorem perm3 {h₀ h : Heap} {L : Addr} {a b c d e : Addr × Obj} {r : List (Addr × Obj)} (N : News h₀ L h (a :: b :: c :: d :: e :: r)) : News h₀ L h (b :: e :: ([a, c, d] ++ r)) := fun p hp => N p (by
  simp only [List.mem_cons, List.cons_append, List.nil_append] at hp ⊢
  rcases hp with h | h | h | h | h | h <;> simp [h])
theorem perm4 {h₀ h : Heap} {L : Addr} {a b c d e f : Addr × Obj} {r : List (Addr × Obj)} (N : News h₀ L h (a :: b :: c :: d :: e :: f :: r)) : News h₀ L h (c :: f :: ([a, b, d, e] ++ r)) := fun p hp => N p (by
  simp only [List.mem_cons, List.cons_append, List.nil_append] at hp ⊢
  rcases hp with h | h | h | h | h | h | h <;> simp [h])
end
section
theorem layT02a1 : True := by
  k_with_none
  k_with "ne" => (with_reducible (first | exact ns1 | exact ns2 | exact qlt (by assumption) | exact qgt (by assumption) | exact qne (by assumption) | exact qen (by assumption) | exact rlt (by assumption) | exact rgt (by assumption) | exact rne (by assumption) | exact ren (by assumption) | exact qlt (And.right (by assumption)) | exact qgt (And.right (by assumption)) | exact qne (And.right (by assumption)) | exact qen (And.right (by assumption)) | exact rlt (And.right (by assumption)) | exact rgt (And.right (by assumption)) | exact rne (And.right (by assumption)) | exact ren (And.right (by assumption)) | exact qlt (And.right (And.right (by assumption))) | exact qgt (And.right (And.right (by assumption))) | exact qne (And.right (And.right (by assumption))) | exact qen (And.right (And.right (by assumption))) | exact rlt (And.right (And.right (by assumption))) | exact rgt (And.right (And.right (by assumption))) | exact rne (And.right (And.right (by assumption))) | exact ren (And.right (And.right (by assumption))) | exact qlt (And.right (And.right (And.right (by assumption)))) | exact qgt (And.right (And.right (And.right (by assumption)))) | exact qne (And.right (And.right (And.right (by assumption)))) | exact qen (And.right (And.right (And.right (by assumption)))) | exact rlt (And.right (And.right (And.right (by assumption)))) | exact rgt (And.right (And.right (And.right (by assumption)))) | exact rne (And.right (And.right (And.right (by assumption)))) | exact ren (And.right (And.right (And.right (by assumption)))) | exact qlt (And.right (And.right (And.right (And.right (by assumption))))) | exact qgt (And.right (And.right (And.right (And.right (by assumption))))) | exact qne (And.right (And.right (And.right (And.right (by assumption))))) | exact qen (And.right (And.right (And.right (And.right (by assumption))))) | exact rlt (And.right (And.right (And.right (And.right (by assumption))))) | exact rgt (And.right (And.right (And.right (And.right (by assumption))))) | exact rne (And.right (And.right (And.right (And.right (by assumption))))) | exact ren (And.right (And.right (And.right (And.right (by assumption))))) | exact qlt (And.right (And.right (And.right (And.right (And.right (by assumption)))))) | exact qgt (And.right (And.right (And.right (And.right (And.right (by assumption)))))) | exact qne (And.right (And.right (And.right (And.right (And.right (by assumption)))))) | exact qen (And.right (And.right (And.right (And.right (And.right (by assumption)))))) | exact rlt (And.right (And.right (And.right (And.right (And.right (by assumption)))))) | exact rgt (And.right (And.right (And.right (And.right (And.right (by assumption)))))) | exact rne (And.right (And.right (And.right (And.right (And.right (by assumption)))))) | exact ren (And.right (And.right (And.right (And.right (And.right (by assumption)))))) | exact qlt (And.right (And.right (And.right (And.right (And.right (And.right (by assumption))))))) | exact qgt (And.right (And.right (And.right (And.right (And.right (And.right (by assumption))))))) | exact qne (And.right (And.right (And.right (And.right (And.right (And.right (by assumption))))))) | exact qen (And.right (And.right (And.right (And.right (And.right (And.right (by assumption))))))) | exact rlt (And.right (And.right (And.right (And.right (And.right (And.right (by assumption))))))) | exact rgt (And.right (And.right (And.right (And.right (And.right (And.right (by assumption))))))) | exact rne (And.right (And.right (And.right (And.right (And.right (And.right (by assumption))))))) | exact ren (And.right (And.right (And.right (And.right (And.right (And.right (by assumption))))))) | exact qlt (And.right (And.right (And.right (And.right (And.right (And.right (And.right (by assumption)))))))) | exact qgt (And.right (And.right (And.right (And.right (And.right (And.right (And.right (by assumption)))))))) | exact qne (And.right (And.right (And.right (And.right (And.right (And.right (And.right (by assumption)))))))) | exact qen (And.right (And.right (And.right (And.right (And.right (And.right (And.right (by assumption)))))))) | exact rlt (And.right (And.right (And.right (And.right (And.right (And.right (And.right (by assumption)))))))) | exact rgt (And.right (And.right (And.right (And.right (And.right (And.right (And.right (by assumption)))))))) | exact rne (And.right (And.right (And.right (And.right (And.right (And.right (And.right (by assumption)))))))) | exact ren (And.right (And.right (And.right (And.right (And.right (And.right (And.right (by assumption)))))))) | exact qlt (And.right (And.right (And.right (And.right (And.right (And.right (And.right (And.right (by assumption))))))))) | exact qgt (And.right (And.right (And.right (And.right (And.right (And.right (And.right (And.right (by assumption))))))))) | exact qne (And.right (And.right (And.right (And.right (And.right (And.right (And.right (And.right (by assumption))))))))) | exact qen (And.right (And.right (And.right (And.right (And.right (And.right (And.right (And.right (by assumption))))))))) | exact rlt (And.right (And.right (And.right (And.right (And.right (And.right (And.right (And.right (by assumption))))))))) | exact rgt (And.right (And.right (And.right (And.right (And.right (And.right (And.right (And.right (by assumption))))))))) | exact rne (And.right (And.right (And.right (And.right (And.right (And.right (And.right (And.right (by assumption))))))))) | exact ren (And.right (And.right (And.right (And.right (And.right (And.right (And.right (And.right (by assumption))))))))) | exact qlt (And.right (And.right (And.right (And.right (And.right (And.right (And.right (And.right (And.right (by assumption)))))))))) | exact qgt (And.right (And.right (And.right (And.right (And.right (And.right (And.right (And.right (And.right (by assumption)))))))))) | exact qne (And.right (And.right (And.right (And.right (And.right (And.right (And.right (And.right (And.right (by assumption)))))))))) | exact qen (And.right (And.right (And.right (And.right (And.right (And.right (And.right (And.right (And.right (by assumption)))))))))) | exact rlt (And.right (And.right (And.right (And.right (And.right (And.right (And.right (And.right (And.right (by assumption)))))))))) | exact rgt (And.right (And.right (And.right (And.right (And.right (And.right (And.right (And.right (And.right (by assumption)))))))))) | exact rne (And.right (And.right (And.right (And.right (And.right (And.right (And.right (And.right (And.right (by assumption)))))))))) | exact ren (And.right (And.right (And.right (And.right (And.right (And.right (And.right (And.right (And.right (by assumption)))))))))) | exact qlt (And.right (And.right (And.right (And.right (And.right (And.right (And.right (And.right (And.right (And.right (by assumption))))))))))) | exact qgt (And.right (And.right (And.right (And.right (And.right (And.right (And.right (And.right (And.right (And.right (by assumption))))))))))) | exact qne (And.right (And.right (And.right (And.right (And.right (And.right (And.right (And.right (And.right (And.right (by assumption))))))))))) | exact qen (And.right (And.right (And.right (And.right (And.right (And.right (And.right (And.right (And.right (And.right (by assumption))))))))))) | exact rlt (And.right (And.right (And.right (And.right (And.right (And.right (And.right (And.right (And.right (And.right (by assumption))))))))))) | exact rgt (And.right (And.right (And.right (And.right (And.right (And.right (And.right (And.right (And.right (And.right (by assumption))))))))))) | exact rne (And.right (And.right (And.right (And.right (And.right (And.right (And.right (And.right (And.right (And.right (by assumption))))))))))) | exact ren (And.right (And.right (And.right (And.right (And.right (And.right (And.right (And.right (And.right (And.right (by assumption))))))))))) | exact qlt (And.right (And.right (And.right (And.right (And.right (And.right (And.right (And.right (And.right (And.right (And.right (by assumption)))))))))))) | exact qgt (And.right (And.right (And.right (And.right (And.right (And.right (And.right (And.right (And.right (And.right (And.right (by assumption)))))))))))) | exact qne (And.right (And.right (And.right (And.right (And.right (And.right (And.right (And.right (And.right (And.right (And.right (by assumption)))))))))))) | exact qen (And.right (And.right (And.right (And.right (And.right (And.right (And.right (And.right (And.right (And.right (And.right (by assumption)))))))))))) | exact rlt (And.right (And.right (And.right (And.right (And.right (And.right (And.right (And.right (And.right (And.right (And.right (by assumption)))))))))))) | exact rgt (And.right (And.right (And.right (And.right (And.right (And.right (And.right (And.right (And.right (And.right (And.right (by assumption)))))))))))) | exact rne (And.right (And.right (And.right (And.right (And.right (And.right (And.right (And.right (And.right (And.right (And.right (by assumption)))))))))))) | exact ren (And.right (And.right (And.right (And.right (And.right (And.right (And.right (And.right (And.right (And.right (And.right (by assumption)))))))))))) | exact qlt (And.right (And.right (And.right (And.right (And.right (And.right (And.right (And.right (And.right (And.right (And.right (And.right (by assumption))))))))))))) | exact qgt (And.right (And.right (And.right (And.right (And.right (And.right (And.right (And.right (And.right (And.right (And.right (And.right (by assumption))))))))))))) | exact qne (And.right (And.right (And.right (And.right (And.right (And.right (And.right (And.right (And.right (And.right (And.right (And.right (by assumption))))))))))))) | exact qen (And.right (And.right (And.right (And.right (And.right (And.right (And.right (And.right (And.right (And.right (And.right (And.right (by assumption))))))))))))) | exact rlt (And.right (And.right (And.right (And.right (And.right (And.right (And.right (And.right (And.right (And.right (And.right (And.right (by assumption))))))))))))) | exact rgt (And.right (And.right (And.right (And.right (And.right (And.right (And.right (And.right (And.right (And.right (And.right (And.right (by assumption))))))))))))) | exact rne (And.right (And.right (And.right (And.right (And.right (And.right (And.right (And.right (And.right (And.right (And.right (And.right (by assumption))))))))))))) | exact ren (And.right (And.right (And.right (And.right (And.right (And.right (And.right (And.right (And.right (And.right (And.right (And.right (by assumption))))))))))))) | exact qlt (And.right (And.right (And.right (And.right (And.right (And.right (And.right (And.right (And.right (And.right (And.right (And.right (And.right (by assumption)))))))))))))) | exact qgt (And.right (And.right (And.right (And.right (And.right (And.right (And.right (And.right (And.right (And.right (And.right (And.right (And.right (by assumption)))))))))))))) | exact qne (And.right (And.right (And.right (And.right (And.right (And.right (And.right (And.right (And.right (And.right (And.right (And.right (And.right (by assumption)))))))))))))) | exact qen (And.right (And.right (And.right (And.right (And.right (And.right (And.right (And.right (And.right (And.right (And.right (And.right (And.right (by assumption)))))))))))))) | exact rlt (And.right (And.right (And.right (And.right (And.right (And.right (And.right (And.right (And.right (And.right (And.right (And.right (And.right (by assumption)))))))))))))) | exact rgt (And.right (And.right (And.right (And.right (And.right (And.right (And.right (And.right (And.right (And.right (And.right (And.right (And.right (by assumption)))))))))))))) | exact rne (And.right (And.right (And.right (And.right (And.right (And.right (And.right (And.right (And.right (And.right (And.right (And.right (And.right (by assumption)))))))))))))) | exact ren (And.right (And.right (And.right (And.right (And.right (And.right (And.right (And.right (And.right (And.right (And.right (And.right (And.right (by assumption)))))))))))))) | exact qlt (And.right (And.right (And.right (And.right (And.right (And.right (And.right (And.right (And.right (And.right (And.right (And.right (And.right (And.right (by assumption))))))))))))))) | exact qgt (And.right (And.right (And.right (And.right (And.right (And.right (And.right (And.right (And.right (And.right (And.right (And.right (And.right (And.right (by assumption))))))))))))))) | exact qne (And.right (And.right (And.right (And.right (And.right (And.right (And.right (And.right (And.right (And.right (And.right (And.right (And.right (And.right (by assumption))))))))))))))) | exact qen (And.right (And.right (And.right (And.right (And.right (And.right (And.right (And.right (And.right (And.right (And.right (And.right (And.right (And.right (by assumption))))))))))))))) | exact rlt (And.right (And.right (And.right (And.right (And.right (And.right (And.right (And.right (And.right (And.right (And.right (And.right (And.right (And.right (by assumption))))))))))))))) | exact rgt (And.right (And.right (And.right (And.right (And.right (And.right (And.right (And.right (And.right (And.right (And.right (And.right (And.right (And.right (by assumption))))))))))))))) | exact rne (And.right (And.right (And.right (And.right (And.right (And.right (And.right (And.right (And.right (And.right (And.right (And.right (And.right (And.right (by assumption))))))))))))))) | exact ren (And.right (And.right (And.right (And.right (And.right (And.right (And.right (And.right (And.right (And.right (And.right (And.right (And.right (And.right (by assumption))))))))))))))) | exact qlt (And.right (And.right (And.right (And.right (And.right (And.right (And.right (And.right (And.right (And.right (And.right (And.right (And.right (And.right (And.right (by assumption)))))))))))))))) | exact qgt (And.right (And.right (And.right (And.right (And.right (And.right (And.right (And.right (And.right (And.right (And.right (And.right (And.right (And.right (And.right (by assumption)))))))))))))))) | exact qne (And.right (And.right (And.right (And.right (And.right (And.right (And.right (And.right (And.right (And.right (And.right (And.right (And.right (And.right (And.right (by assumption)))))))))))))))) | exact qen (And.right (And.right (And.right (And.right (And.right (And.right (And.right (And.right (And.right (And.right (And.right (And.right (And.right (And.right (And.right (by assumption)))))))))))))))) | exact rlt (And.right (And.right (And.right (And.right (And.right (And.right (And.right (And.right (And.right (And.right (And.right (And.right (And.right (And.right (And.right (by assumption)))))))))))))))) | exact rgt (And.right (And.right (And.right (And.right (And.right (And.right (And.right (And.right (And.right (And.right (And.right (And.right (And.right (And.right (And.right (by assumption)))))))))))))))) | exact rne (And.right (And.right (And.right (And.right (And.right (And.right (And.right (And.right (And.right (And.right (And.right (And.right (And.right (And.right (And.right (by assumption)))))))))))))))) | exact ren (And.right (And.right (And.right (And.right (And.right (And.right (And.right (And.right (And.right (And.right (And.right (And.right (And.right (And.right (And.right (by assumption))))))))))))))))))
  trivial
theorem layT02a2 : True := by
  k_with "mine texts" => ((try dsimp only [← sx0, ← sx1, ← sx2, ← sx3, ← sx4, ← sx5, ← sx6, ← sx7, ← sx8, ← sx9, ← sx10, ← sx11, ← sx12, ← sx13, ← sx14, ← sx15, ← sx16, ← sx17, ← sx18, ← sx19, ← sx20, ← sx21, ← sx22, ← sx23, ← sx24, ← sx25, ← sx26, ← sx27, ← sx28, ← sx29, ← sx30, ← sx31, ← sx32, ← sx33, ← sx34, ← sx35, ← sx36, ← sx37, ← sx38, ← sx39, ← sx40, ← sx41, ← sx42, ← sx43, ← sx44, ← sx45, ← sx46, ← sx47, ← sx48, ← sx49, ← sx50, ← sx51, ← sx52, ← sx53, ← sx54, ← sx55, ← sx56, ← sx57, ← sx58, ← sx59, ← sx60, ← sx61, ← sx62, ← sx63, ← sx64, ← sx65, ← sx66, ← sx67, ← sx68, ← sx69, ← sx70, ← sx71, ← sx72, ← sx73, ← sx74, ← sx75, ← sx76, ← sx77, ← sx78, ← sx79, ← sx80, ← sx81, ← sx82, ← sx83, ← sx84, ← sx85, ← sx86, ← sx87, ← sx88, ← sx89, ← sx90, ← sx91, ← sx92]))
  k_with "mine drop" => (first | (refine' Drop.head ?a; (case a => k_all)) | (refine' Drop.tail ?a ?b; (case a => k_ne); (case b => walk_at "mine drop")))
  k_with "setAttr ref" => ((k_here; k_dflt (first | (refine' exc_set0 ?k1 ?k2 ?k3 ?k4 ?k5 ?k6 ?k7 ?k8 ?k9 ?_; (case k1 => k_asm); (case k2 => k_asm); (case k3 => k_asm); (case k4 => k_mem); (case k5 => k_is); (case k6 => kernel_rfl); (case k7 => k_is); (case k8 => k_is); (case k9 => intro zqd; k_upd); k_whole; intro zqdp zqhp zqFp zqNp zql1; (try k_lt zql1)) | (refine' exc_set_args ?k1 ?k2 ?k3 ?k4 ?k5 ?k6 ?k7 ?k8 ?k9 ?k10 ?_; (case k1 => k_asm); (case k2 => k_asm); (case k3 => k_asm); (case k4 => first | (refine' InstAt.of_exc ?N ?h1 ?h2; (case N => k_asm); (case h1 => k_mem); (case h2 => k_mem)) | (refine' InstAt.of_exc0 ?N ?h1; (case N => k_asm); (case h1 => k_mem))); (case k5 => exact isTup_of (by k_asm) (by k_mem)); (case k6 => k_is); (case k7 => kernel_rfl); (case k8 => k_is); (case k9 => k_is); (case k10 => k_upd); k_whole; intro zqhp zqFp zqNp) | (refine' exc_set ?k1 ?k2 ?k3 ?k4 ?k5 ?k6 ?k7 ?k8 ?k9 ?k10 ?k11 ?k12 ?_; (case k1 => k_asm); (case k2 => k_asm); (case k3 => k_asm); (case k4 => first | (refine' InstAt.of_exc ?N ?h1 ?h2; (case N => k_asm); (case h1 => k_mem); (case h2 => k_mem)) | (refine' InstAt.of_exc0 ?N ?h1; (case N => k_asm); (case h1 => k_mem))); (case k5 => k_is); (case k6 => kernel_rfl); (case k7 => k_is); (case k8 => k_is); (case k9 => k_get); (case k10 => k_put); (case k11 => k_upd); (case k12 => exact Nat.le_of_ble_eq_true rfl); k_whole; intro zqhp zqFp zqNp))))
  k_with "call builtin:Exception.__init__" => ((k_here; k_dflt (refine' exc_init_call ?k1 ?k2 ?k3 ?k4 ?k5 ?k6 ?_; (case k1 => k_asm); (case k2 => k_asm); (case k3 => k_asm); (case k4 => first | (refine' InstAt.of_exc ?N ?h1 ?h2; (case N => k_asm); (case h1 => k_mem); (case h2 => k_mem)) | (refine' InstAt.of_exc0 ?N ?h1; (case N => k_asm); (case h1 => k_mem))); (case k5 => k_is); (case k6 => intro zqt; k_upd); k_whole; intro zqtp zqhp zqFp zqNp zql1; (try k_lt zql1))))
  k_with "call builtin:repr" => ((k_here; k_dflt (refine' repr_use ?k1 ?k2 ?k3 ?k4 ?k5 ?k6 ?k7 ?_; (case k1 => assumption); (case k2 => k_asm); (case k3 => k_asm); (case k4 => exact rfl); (case k5 => exact rfl); (case k6 => exact Nat.le_of_ble_eq_true rfl); (case k7 => exact Nat.le_of_ble_eq_true rfl); k_whole; intro zqhp zqup zqtkp zqFp zqNp)))
  k_with "BackIn" => ((k_dflt (refine' back_ ?k1 ?k2 ?k3 ?_; (case k1 => k_asm); (case k2 => k_asm); (case k3 => walk_at "mine drop"); k_whole; intro zqFp zqNp; (try dsimp only))))
  k_with "call ref" => ((k_here; k_dflt (refine wpAny_call ?_; refine' enter_in ?k1 ?k2 ?k3 ?k4 ?k5 ?k6 ?k7 ?k8 ?kB ?c2 ?c3 ?c4 ?c5 ?_; (case k1 => k_asm); (case k2 => k_asm); (case k3 => k_asm); (case k4 => exact Top.nolimit (by assumption)); (case k5 => k_is); (case k6 => k_is); (case k7 => exact Nat.le_of_ble_eq_true rfl); (case k8 => first | ((with_reducible show BindsTo _ _ ⟨[_], []⟩ _); first | exact BindsTo.of_eq (binds := [(_, _)]) rfl | exact binds_K (binds := [(_, _)]) (by k_in) rfl (by k_is) rfl rfl rfl) | ((with_reducible show BindsTo _ _ ⟨[_, _], []⟩ _); first | exact BindsTo.of_eq (binds := [(_, _), (_, _)]) rfl | exact binds_K (binds := [(_, _), (_, _)]) (by k_in) rfl (by k_is) rfl rfl rfl) | ((with_reducible show BindsTo _ _ ⟨[_, _, _], []⟩ _); first | exact BindsTo.of_eq (binds := [(_, _), (_, _), (_, _)]) rfl | exact binds_K (binds := [(_, _), (_, _), (_, _)]) (by k_in) rfl (by k_is) rfl rfl rfl) | ((with_reducible show BindsTo _ _ ⟨[_, _, _, _], []⟩ _); first | exact BindsTo.of_eq (binds := [(_, _), (_, _), (_, _), (_, _)]) rfl | exact binds_K (binds := [(_, _), (_, _), (_, _), (_, _)]) (by k_in) rfl (by k_is) rfl rfl rfl) | ((with_reducible show BindsTo _ _ ⟨[_, _, _, _, _], []⟩ _); first | exact BindsTo.of_eq (binds := [(_, _), (_, _), (_, _), (_, _), (_, _)]) rfl | exact binds_K (binds := [(_, _), (_, _), (_, _), (_, _), (_, _)]) (by k_in) rfl (by k_is) rfl rfl rfl)); (case c5 => decide); (case kB => exact locs rfl); (case c2 => exact rfl); (case c3 => exact rfl); (case c4 => exact rfl); k_whole; intro zqoLp zqLp zqhp zqtkp zqFp zqNp zql1 zqn1; (try k_lt zql1); (try (replace zqn1 := allNe_of zqn1; simp only [AllNe, and_true] at zqn1)); (try dsimp only); walk_at "mine texts")))
  k_with "call builtin:str.join" => ((k_here; (with_reducible show wpAny _ _ (call (Value.builtin "str.join") [Value.str _ _, Value.ref _]) _ _ _); k_dflt (refine join_listC (by is_list) (by repeat constructor) (by decide) (by (simp only [List.map_cons, List.map_nil, List.sum_cons, List.sum_nil, List.length_cons, List.length_nil]; omega)) ?_); intro zqtp zqkp))
  k_with "getMethod type:Exception" => ((k_here; refine' method_type ?F ?X ?m (by decide +kernel) ?e ?h ?_; (case F => k_asm); (case X => k_asm); (case m => exact meta_Exception); (case e => k_dflt k_is); (case h => k_handed)))
  k_with "compareOp IsNot" => ((k_here; k_dflt (refine isNot_none (by assumption) ?_)))
  k_with "call builtin:str.format" => ((k_here; k_dflt (refine' line_use ?k1 ?k2 ?k3 ?k4 ?k5 ?k6 ?k7 ?_; (case k1 => assumption); (case k2 => k_asm); (case k3 => k_asm); (case k4 => exact rfl); (case k5 => exact rfl); (case k6 => exact Nat.le_of_ble_eq_true rfl); (case k7 => exact Nat.le_of_ble_eq_true rfl); k_whole; intro zqhp zqup zqtkp zqFp zqNp)))
  k_with "call builtin:str.format" => ((k_here; (with_reducible show wpAny _ _ (call (Value.builtin "str.format") [Value.str _ _, _, _, _, _]) _ _ _); k_dflt (refine' fmt_use ?k1 ?k2 ?k3 ?k4 ?k5 ?_; (case k1 => k_asm); (case k2 => k_asm); (case k3 => exact ⟨rfl, rfl, Nat.le_of_ble_eq_true rfl, Nat.le_of_ble_eq_true rfl⟩); (case k4 => exact args_5 _ _ _ _ _); (case k5 => walk_at "mine fmt")); k_whole; intro zqhp zqup zqtkp zqFp zqNp))
  k_with "pyReprObj" => ((k_here; k_dflt (refine' reprObj_use ?k1 ?k2 ?k3 ?k4 ?k5 ?k6 ?k7 ?_; (case k1 => assumption); (case k2 => k_asm); (case k3 => k_asm); (case k4 => exact rfl); (case k5 => exact rfl); (case k6 => exact Nat.le_of_ble_eq_true rfl); (case k7 => exact Nat.le_of_ble_eq_true rfl); k_whole; intro zqhp zqup zqtkp zqFp zqNp)))
  trivial
theorem layT02a3 : True := by
  k_with "exec While Compare cons nil" => ((k_here; refine halt_ ?_))
  k_with "exec While BoolOp cons nil" => ((k_here; refine halt_ ?_))
  k_with "subscriptTail Name BinOp str int" => ((k_here; refine halt_ ?_))
  k_with "subscriptTail" => ((k_here; (with_reducible show wpAny _ _ (subscriptTail _ _ (Value.str _ _) (Value.int _ _)) _ _ _); refine halt_ ?_))
  k_with "WhileStep2" => ((refine halt_ ?_))
  k_with "pyIter str" => ((k_here; refine halt_ ?_))
  k_with "exec For" => ((k_here; (rename Fr _ _ _ _ => lF'); (with_unfolding_all refine' For_invVF lF' ?k1 ?k2 ?_; (case k1 => exact rfl); (case k2 => exact rfl); k_whole)))
  trivial
theorem text02 : ∀ {p : Program} {loose : List Str} {mean : ExcName → Option Value} {mg mb : Str → Option Value} (w : World) (s : Shared) (k : Int) (kt : Tok) (h0 : 0 ≤ k) (h1 : k < 12 ^ 4)
    (Q E : Value → Shared → Prop) (KX : (hz.heap_129 w.params).In s.heap) (T : Top p loose mean mg mb s.heap)
    (hQ : ∀ h' tk (x : Str) (u : Tok), Grow s.heap h' → Sg2 x → x.length ≤ 4 → Q (.str x u) { s with heap := h', toks := tk }),
    wpAny (model PySem.Challenge.rw_dm0028_02.prog w) (AD 700 2500) (call (.ref 68) [.int k kt]) Q E s := by
  w_top off
  k_fill
  intro p loose mean mg mb w s k kt h0 h1 Q E KX T hQ
  obtain ⟨hh, g, dr, tk, os⟩ := s
  dsimp only at KX T  hQ
  w_strict (
  refine wpAny_call ?_
  k_dflt (refine' enter_new (h₀ := hh) (binds := [("number", .int k kt)]) (news := []) ?k1 ?k2 KX T.nolimit ?k9 ?k5 ?k6 ?k7 ?k8 ?kB ?c2 ?c3 ?c4 ?c5 ?_; (case k5 => k_is); (case k6 => k_is); (case k7 => exact Nat.le_of_ble_eq_true rfl); (case k8 => first | exact BindsTo.of_eq rfl | exact binds_K KX rfl (by k_is) rfl rfl rfl); (case c5 => decide); (case kB => exact locs rfl); (case c2 => exact rfl); (case c3 => exact rfl); (case c4 => exact rfl); (case k1 => exact fun _ _ e => e); (case k2 => exact Nat.le_refl _); (case k9 => exact List.forall_mem_nil _))
  intro L' h' tk' F' N' l1
  walk_at "mine texts"
  k_steps
  unfold Halt
  (with_reducible rename Fr _ _ _ _ => F3)
  (with_reducible rename News _ _ _ _ => N3)
  refine While_inv2 (n₀ := 4) (WT _) F3 N3 ⟨rfl, ⟨k, kt, rfl, h0, h1⟩, rfl, _, _, rfl, (fun c hc => nomatch hc), Nat.le_refl _⟩ ?zw
  rintro j m₂ nx h₁ tk₁ F4 N4 ⟨rfl, ⟨k4, t4, e1, h04, h14⟩, e2, x4, u4, e3, hs4, hl4⟩
  clear F3 N3
  replace F4 := fr_names [(Str.ofString "number", _), (Str.ofString "signs", _), (Str.ofString "out", _)] (List.forall_mem_cons.mpr ⟨e1, List.forall_mem_cons.mpr ⟨e2, List.forall_mem_cons.mpr ⟨e3, List.forall_mem_nil _⟩⟩⟩) F4
  dsimp only [kstB] at F4
  have hxl : x4.length ≤ 4 := by omega
  k_steps
  · unfold Halt
    have hm0 := Int.fmod_nonneg_of_pos k4 (b := 12) (by decide)
    have hm1 := Int.fmod_lt_of_pos k4 (b := 12) (by decide)
    obtain ⟨c, hc, hit⟩ := sig_at hm0 hm1
    refine item_is (x := sigText) ⟨hm0, by rw [sig_len]; omega, by rw [sig_len]; decide, hit⟩ ?_
    k_steps
    unfold Halt
    (with_reducible rename Fr _ _ _ _ => F5)
    (with_reducible rename News _ _ _ _ => N5)
    obtain ⟨j, rfl⟩ : ∃ i, j = i + 1 := ⟨j - 1, by
      rcases j with _ | j
      · exfalso; rw [Int.pow_zero] at h14; omega
      · omega⟩
    refine ⟨_, _, _, _, j, rfl, F5, N5, Nat.lt_succ_self _, rfl, ⟨_, _, by with_unfolding_all rfl, ?za, ?zb⟩, by with_unfolding_all rfl, _, _, by with_unfolding_all rfl, sg2_snoc hs4 hc, ?zc⟩
    case za => rw [Int.fdiv_eq_ediv_of_nonneg _ (by decide)]; omega
    case zb => rw [Int.fdiv_eq_ediv_of_nonneg _ (by decide)]; rw [Int.pow_succ] at h14; omega
    case zc =>
      rw [PySem.Str.length_append]
      have : (⟨#[c]⟩ : Str).length = 1 := rfl
      omega
  · with_reducible rename Fr _ _ _ _ => F5
    exact hQ _ _ _ _ F5.keep hs4 hxl)
end
section
theorem layS02k1 : True := by
  k_with_none
  k_with "ne" => (with_reducible (first | exact ns1 | exact ns2 | exact qlt (by assumption) | exact qgt (by assumption) | exact qne (by assumption) | exact qen (by assumption) | exact rlt (by assumption) | exact rgt (by assumption) | exact rne (by assumption) | exact ren (by assumption) | exact qlt (And.right (by assumption)) | exact qgt (And.right (by assumption)) | exact qne (And.right (by assumption)) | exact qen (And.right (by assumption)) | exact rlt (And.right (by assumption)) | exact rgt (And.right (by assumption)) | exact rne (And.right (by assumption)) | exact ren (And.right (by assumption)) | exact qlt (And.right (And.right (by assumption))) | exact qgt (And.right (And.right (by assumption))) | exact qne (And.right (And.right (by assumption))) | exact qen (And.right (And.right (by assumption))) | exact rlt (And.right (And.right (by assumption))) | exact rgt (And.right (And.right (by assumption))) | exact rne (And.right (And.right (by assumption))) | exact ren (And.right (And.right (by assumption))) | exact qlt (And.right (And.right (And.right (by assumption)))) | exact qgt (And.right (And.right (And.right (by assumption)))) | exact qne (And.right (And.right (And.right (by assumption)))) | exact qen (And.right (And.right (And.right (by assumption)))) | exact rlt (And.right (And.right (And.right (by assumption)))) | exact rgt (And.right (And.right (And.right (by assumption)))) | exact rne (And.right (And.right (And.right (by assumption)))) | exact ren (And.right (And.right (And.right (by assumption)))) | exact qlt (And.right (And.right (And.right (And.right (by assumption))))) | exact qgt (And.right (And.right (And.right (And.right (by assumption))))) | exact qne (And.right (And.right (And.right (And.right (by assumption))))) | exact qen (And.right (And.right (And.right (And.right (by assumption))))) | exact rlt (And.right (And.right (And.right (And.right (by assumption))))) | exact rgt (And.right (And.right (And.right (And.right (by assumption))))) | exact rne (And.right (And.right (And.right (And.right (by assumption))))) | exact ren (And.right (And.right (And.right (And.right (by assumption))))) | exact qlt (And.right (And.right (And.right (And.right (And.right (by assumption)))))) | exact qgt (And.right (And.right (And.right (And.right (And.right (by assumption)))))) | exact qne (And.right (And.right (And.right (And.right (And.right (by assumption)))))) | exact qen (And.right (And.right (And.right (And.right (And.right (by assumption)))))) | exact rlt (And.right (And.right (And.right (And.right (And.right (by assumption)))))) | exact rgt (And.right (And.right (And.right (And.right (And.right (by assumption)))))) | exact rne (And.right (And.right (And.right (And.right (And.right (by assumption)))))) | exact ren (And.right (And.right (And.right (And.right (And.right (by assumption)))))) | exact qlt (And.right (And.right (And.right (And.right (And.right (And.right (by assumption))))))) | exact qgt (And.right (And.right (And.right (And.right (And.right (And.right (by assumption))))))) | exact qne (And.right (And.right (And.right (And.right (And.right (And.right (by assumption))))))) | exact qen (And.right (And.right (And.right (And.right (And.right (And.right (by assumption))))))) | exact rlt (And.right (And.right (And.right (And.right (And.right (And.right (by assumption))))))) | exact rgt (And.right (And.right (And.right (And.right (And.right (And.right (by assumption))))))) | exact rne (And.right (And.right (And.right (And.right (And.right (And.right (by assumption))))))) | exact ren (And.right (And.right (And.right (And.right (And.right (And.right (by assumption))))))) | exact qlt (And.right (And.right (And.right (And.right (And.right (And.right (And.right (by assumption)))))))) | exact qgt (And.right (And.right (And.right (And.right (And.right (And.right (And.right (by assumption)))))))) | exact qne (And.right (And.right (And.right (And.right (And.right (And.right (And.right (by assumption)))))))) | exact qen (And.right (And.right (And.right (And.right (And.right (And.right (And.right (by assumption)))))))) | exact rlt (And.right (And.right (And.right (And.right (And.right (And.right (And.right (by assumption)))))))) | exact rgt (And.right (And.right (And.right (And.right (And.right (And.right (And.right (by assumption)))))))) | exact rne (And.right (And.right (And.right (And.right (And.right (And.right (And.right (by assumption)))))))) | exact ren (And.right (And.right (And.right (And.right (And.right (And.right (And.right (by assumption)))))))) | exact qlt (And.right (And.right (And.right (And.right (And.right (And.right (And.right (And.right (by assumption))))))))) | exact qgt (And.right (And.right (And.right (And.right (And.right (And.right (And.right (And.right (by assumption))))))))) | exact qne (And.right (And.right (And.right (And.right (And.right (And.right (And.right (And.right (by assumption))))))))) | exact qen (And.right (And.right (And.right (And.right (And.right (And.right (And.right (And.right (by assumption))))))))) | exact rlt (And.right (And.right (And.right (And.right (And.right (And.right (And.right (And.right (by assumption))))))))) | exact rgt (And.right (And.right (And.right (And.right (And.right (And.right (And.right (And.right (by assumption))))))))) | exact rne (And.right (And.right (And.right (And.right (And.right (And.right (And.right (And.right (by assumption))))))))) | exact ren (And.right (And.right (And.right (And.right (And.right (And.right (And.right (And.right (by assumption))))))))) | exact qlt (And.right (And.right (And.right (And.right (And.right (And.right (And.right (And.right (And.right (by assumption)))))))))) | exact qgt (And.right (And.right (And.right (And.right (And.right (And.right (And.right (And.right (And.right (by assumption)))))))))) | exact qne (And.right (And.right (And.right (And.right (And.right (And.right (And.right (And.right (And.right (by assumption)))))))))) | exact qen (And.right (And.right (And.right (And.right (And.right (And.right (And.right (And.right (And.right (by assumption)))))))))) | exact rlt (And.right (And.right (And.right (And.right (And.right (And.right (And.right (And.right (And.right (by assumption)))))))))) | exact rgt (And.right (And.right (And.right (And.right (And.right (And.right (And.right (And.right (And.right (by assumption)))))))))) | exact rne (And.right (And.right (And.right (And.right (And.right (And.right (And.right (And.right (And.right (by assumption)))))))))) | exact ren (And.right (And.right (And.right (And.right (And.right (And.right (And.right (And.right (And.right (by assumption)))))))))) | exact qlt (And.right (And.right (And.right (And.right (And.right (And.right (And.right (And.right (And.right (And.right (by assumption))))))))))) | exact qgt (And.right (And.right (And.right (And.right (And.right (And.right (And.right (And.right (And.right (And.right (by assumption))))))))))) | exact qne (And.right (And.right (And.right (And.right (And.right (And.right (And.right (And.right (And.right (And.right (by assumption))))))))))) | exact qen (And.right (And.right (And.right (And.right (And.right (And.right (And.right (And.right (And.right (And.right (by assumption))))))))))) | exact rlt (And.right (And.right (And.right (And.right (And.right (And.right (And.right (And.right (And.right (And.right (by assumption))))))))))) | exact rgt (And.right (And.right (And.right (And.right (And.right (And.right (And.right (And.right (And.right (And.right (by assumption))))))))))) | exact rne (And.right (And.right (And.right (And.right (And.right (And.right (And.right (And.right (And.right (And.right (by assumption))))))))))) | exact ren (And.right (And.right (And.right (And.right (And.right (And.right (And.right (And.right (And.right (And.right (by assumption))))))))))) | exact qlt (And.right (And.right (And.right (And.right (And.right (And.right (And.right (And.right (And.right (And.right (And.right (by assumption)))))))))))) | exact qgt (And.right (And.right (And.right (And.right (And.right (And.right (And.right (And.right (And.right (And.right (And.right (by assumption)))))))))))) | exact qne (And.right (And.right (And.right (And.right (And.right (And.right (And.right (And.right (And.right (And.right (And.right (by assumption)))))))))))) | exact qen (And.right (And.right (And.right (And.right (And.right (And.right (And.right (And.right (And.right (And.right (And.right (by assumption)))))))))))) | exact rlt (And.right (And.right (And.right (And.right (And.right (And.right (And.right (And.right (And.right (And.right (And.right (by assumption)))))))))))) | exact rgt (And.right (And.right (And.right (And.right (And.right (And.right (And.right (And.right (And.right (And.right (And.right (by assumption)))))))))))) | exact rne (And.right (And.right (And.right (And.right (And.right (And.right (And.right (And.right (And.right (And.right (And.right (by assumption)))))))))))) | exact ren (And.right (And.right (And.right (And.right (And.right (And.right (And.right (And.right (And.right (And.right (And.right (by assumption)))))))))))) | exact qlt (And.right (And.right (And.right (And.right (And.right (And.right (And.right (And.right (And.right (And.right (And.right (And.right (by assumption))))))))))))) | exact qgt (And.right (And.right (And.right (And.right (And.right (And.right (And.right (And.right (And.right (And.right (And.right (And.right (by assumption))))))))))))) | exact qne (And.right (And.right (And.right (And.right (And.right (And.right (And.right (And.right (And.right (And.right (And.right (And.right (by assumption))))))))))))) | exact qen (And.right (And.right (And.right (And.right (And.right (And.right (And.right (And.right (And.right (And.right (And.right (And.right (by assumption))))))))))))) | exact rlt (And.right (And.right (And.right (And.right (And.right (And.right (And.right (And.right (And.right (And.right (And.right (And.right (by assumption))))))))))))) | exact rgt (And.right (And.right (And.right (And.right (And.right (And.right (And.right (And.right (And.right (And.right (And.right (And.right (by assumption))))))))))))) | exact rne (And.right (And.right (And.right (And.right (And.right (And.right (And.right (And.right (And.right (And.right (And.right (And.right (by assumption))))))))))))) | exact ren (And.right (And.right (And.right (And.right (And.right (And.right (And.right (And.right (And.right (And.right (And.right (And.right (by assumption))))))))))))) | exact qlt (And.right (And.right (And.right (And.right (And.right (And.right (And.right (And.right (And.right (And.right (And.right (And.right (And.right (by assumption)))))))))))))) | exact qgt (And.right (And.right (And.right (And.right (And.right (And.right (And.right (And.right (And.right (And.right (And.right (And.right (And.right (by assumption)))))))))))))) | exact qne (And.right (And.right (And.right (And.right (And.right (And.right (And.right (And.right (And.right (And.right (And.right (And.right (And.right (by assumption)))))))))))))) | exact qen (And.right (And.right (And.right (And.right (And.right (And.right (And.right (And.right (And.right (And.right (And.right (And.right (And.right (by assumption)))))))))))))) | exact rlt (And.right (And.right (And.right (And.right (And.right (And.right (And.right (And.right (And.right (And.right (And.right (And.right (And.right (by assumption)))))))))))))) | exact rgt (And.right (And.right (And.right (And.right (And.right (And.right (And.right (And.right (And.right (And.right (And.right (And.right (And.right (by assumption)))))))))))))) | exact rne (And.right (And.right (And.right (And.right (And.right (And.right (And.right (And.right (And.right (And.right (And.right (And.right (And.right (by assumption)))))))))))))) | exact ren (And.right (And.right (And.right (And.right (And.right (And.right (And.right (And.right (And.right (And.right (And.right (And.right (And.right (by assumption)))))))))))))) | exact qlt (And.right (And.right (And.right (And.right (And.right (And.right (And.right (And.right (And.right (And.right (And.right (And.right (And.right (And.right (by assumption))))))))))))))) | exact qgt (And.right (And.right (And.right (And.right (And.right (And.right (And.right (And.right (And.right (And.right (And.right (And.right (And.right (And.right (by assumption))))))))))))))) | exact qne (And.right (And.right (And.right (And.right (And.right (And.right (And.right (And.right (And.right (And.right (And.right (And.right (And.right (And.right (by assumption))))))))))))))) | exact qen (And.right (And.right (And.right (And.right (And.right (And.right (And.right (And.right (And.right (And.right (And.right (And.right (And.right (And.right (by assumption))))))))))))))) | exact rlt (And.right (And.right (And.right (And.right (And.right (And.right (And.right (And.right (And.right (And.right (And.right (And.right (And.right (And.right (by assumption))))))))))))))) | exact rgt (And.right (And.right (And.right (And.right (And.right (And.right (And.right (And.right (And.right (And.right (And.right (And.right (And.right (And.right (by assumption))))))))))))))) | exact rne (And.right (And.right (And.right (And.right (And.right (And.right (And.right (And.right (And.right (And.right (And.right (And.right (And.right (And.right (by assumption))))))))))))))) | exact ren (And.right (And.right (And.right (And.right (And.right (And.right (And.right (And.right (And.right (And.right (And.right (And.right (And.right (And.right (by assumption))))))))))))))) | exact qlt (And.right (And.right (And.right (And.right (And.right (And.right (And.right (And.right (And.right (And.right (And.right (And.right (And.right (And.right (And.right (by assumption)))))))))))))))) | exact qgt (And.right (And.right (And.right (And.right (And.right (And.right (And.right (And.right (And.right (And.right (And.right (And.right (And.right (And.right (And.right (by assumption)))))))))))))))) | exact qne (And.right (And.right (And.right (And.right (And.right (And.right (And.right (And.right (And.right (And.right (And.right (And.right (And.right (And.right (And.right (by assumption)))))))))))))))) | exact qen (And.right (And.right (And.right (And.right (And.right (And.right (And.right (And.right (And.right (And.right (And.right (And.right (And.right (And.right (And.right (by assumption)))))))))))))))) | exact rlt (And.right (And.right (And.right (And.right (And.right (And.right (And.right (And.right (And.right (And.right (And.right (And.right (And.right (And.right (And.right (by assumption)))))))))))))))) | exact rgt (And.right (And.right (And.right (And.right (And.right (And.right (And.right (And.right (And.right (And.right (And.right (And.right (And.right (And.right (And.right (by assumption)))))))))))))))) | exact rne (And.right (And.right (And.right (And.right (And.right (And.right (And.right (And.right (And.right (And.right (And.right (And.right (And.right (And.right (And.right (by assumption)))))))))))))))) | exact ren (And.right (And.right (And.right (And.right (And.right (And.right (And.right (And.right (And.right (And.right (And.right (And.right (And.right (And.right (And.right (by assumption))))))))))))))))))
  trivial
theorem layS02k2 : True := by
  k_with "mine texts" => ((try dsimp only [← sx0, ← sx1, ← sx2, ← sx3, ← sx4, ← sx5, ← sx6, ← sx7, ← sx8, ← sx9, ← sx10, ← sx11, ← sx12, ← sx13, ← sx14, ← sx15, ← sx16, ← sx17, ← sx18, ← sx19, ← sx20, ← sx21, ← sx22, ← sx23, ← sx24, ← sx25, ← sx26, ← sx27, ← sx28, ← sx29, ← sx30, ← sx31, ← sx32, ← sx33, ← sx34, ← sx35, ← sx36, ← sx37, ← sx38, ← sx39, ← sx40, ← sx41, ← sx42, ← sx43, ← sx44, ← sx45, ← sx46, ← sx47, ← sx48, ← sx49, ← sx50, ← sx51, ← sx52, ← sx53, ← sx54, ← sx55, ← sx56, ← sx57, ← sx58, ← sx59, ← sx60, ← sx61, ← sx62, ← sx63, ← sx64, ← sx65, ← sx66, ← sx67, ← sx68, ← sx69, ← sx70, ← sx71, ← sx72, ← sx73, ← sx74, ← sx75, ← sx76, ← sx77, ← sx78, ← sx79, ← sx80, ← sx81, ← sx82, ← sx83, ← sx84, ← sx85, ← sx86, ← sx87, ← sx88, ← sx89, ← sx90, ← sx91, ← sx92]))
  k_with "mine drop" => (first | (refine' Drop.head ?a; (case a => k_all)) | (refine' Drop.tail ?a ?b; (case a => k_ne); (case b => walk_at "mine drop")))
  k_with "setAttr ref" => ((k_here; k_dflt (first | (refine' exc_set0 ?k1 ?k2 ?k3 ?k4 ?k5 ?k6 ?k7 ?k8 ?k9 ?_; (case k1 => k_asm); (case k2 => k_asm); (case k3 => k_asm); (case k4 => k_mem); (case k5 => k_is); (case k6 => kernel_rfl); (case k7 => k_is); (case k8 => k_is); (case k9 => intro zqd; k_upd); k_whole; intro zqdp zqhp zqFp zqNp zql1; (try k_lt zql1)) | (refine' exc_set_args ?k1 ?k2 ?k3 ?k4 ?k5 ?k6 ?k7 ?k8 ?k9 ?k10 ?_; (case k1 => k_asm); (case k2 => k_asm); (case k3 => k_asm); (case k4 => first | (refine' InstAt.of_exc ?N ?h1 ?h2; (case N => k_asm); (case h1 => k_mem); (case h2 => k_mem)) | (refine' InstAt.of_exc0 ?N ?h1; (case N => k_asm); (case h1 => k_mem))); (case k5 => exact isTup_of (by k_asm) (by k_mem)); (case k6 => k_is); (case k7 => kernel_rfl); (case k8 => k_is); (case k9 => k_is); (case k10 => k_upd); k_whole; intro zqhp zqFp zqNp) | (refine' exc_set ?k1 ?k2 ?k3 ?k4 ?k5 ?k6 ?k7 ?k8 ?k9 ?k10 ?k11 ?k12 ?_; (case k1 => k_asm); (case k2 => k_asm); (case k3 => k_asm); (case k4 => first | (refine' InstAt.of_exc ?N ?h1 ?h2; (case N => k_asm); (case h1 => k_mem); (case h2 => k_mem)) | (refine' InstAt.of_exc0 ?N ?h1; (case N => k_asm); (case h1 => k_mem))); (case k5 => k_is); (case k6 => kernel_rfl); (case k7 => k_is); (case k8 => k_is); (case k9 => k_get); (case k10 => k_put); (case k11 => k_upd); (case k12 => exact Nat.le_of_ble_eq_true rfl); k_whole; intro zqhp zqFp zqNp))))
  k_with "call builtin:Exception.__init__" => ((k_here; k_dflt (refine' exc_init_call ?k1 ?k2 ?k3 ?k4 ?k5 ?k6 ?_; (case k1 => k_asm); (case k2 => k_asm); (case k3 => k_asm); (case k4 => first | (refine' InstAt.of_exc ?N ?h1 ?h2; (case N => k_asm); (case h1 => k_mem); (case h2 => k_mem)) | (refine' InstAt.of_exc0 ?N ?h1; (case N => k_asm); (case h1 => k_mem))); (case k5 => k_is); (case k6 => intro zqt; k_upd); k_whole; intro zqtp zqhp zqFp zqNp zql1; (try k_lt zql1))))
  k_with "call builtin:repr" => ((k_here; k_dflt (refine' repr_use ?k1 ?k2 ?k3 ?k4 ?k5 ?k6 ?k7 ?_; (case k1 => assumption); (case k2 => k_asm); (case k3 => k_asm); (case k4 => exact rfl); (case k5 => exact rfl); (case k6 => exact Nat.le_of_ble_eq_true rfl); (case k7 => exact Nat.le_of_ble_eq_true rfl); k_whole; intro zqhp zqup zqtkp zqFp zqNp)))
  k_with "BackIn" => ((k_dflt (refine' back_ ?k1 ?k2 ?k3 ?_; (case k1 => k_asm); (case k2 => k_asm); (case k3 => walk_at "mine drop"); k_whole; intro zqFp zqNp; (try dsimp only))))
  k_with "call ref" => ((k_here; k_dflt (refine wpAny_call ?_; refine' enter_in ?k1 ?k2 ?k3 ?k4 ?k5 ?k6 ?k7 ?k8 ?kB ?c2 ?c3 ?c4 ?c5 ?_; (case k1 => k_asm); (case k2 => k_asm); (case k3 => k_asm); (case k4 => exact Top.nolimit (by assumption)); (case k5 => k_is); (case k6 => k_is); (case k7 => exact Nat.le_of_ble_eq_true rfl); (case k8 => first | ((with_reducible show BindsTo _ _ ⟨[_], []⟩ _); first | exact BindsTo.of_eq (binds := [(_, _)]) rfl | exact binds_K (binds := [(_, _)]) (by k_in) rfl (by k_is) rfl rfl rfl) | ((with_reducible show BindsTo _ _ ⟨[_, _], []⟩ _); first | exact BindsTo.of_eq (binds := [(_, _), (_, _)]) rfl | exact binds_K (binds := [(_, _), (_, _)]) (by k_in) rfl (by k_is) rfl rfl rfl) | ((with_reducible show BindsTo _ _ ⟨[_, _, _], []⟩ _); first | exact BindsTo.of_eq (binds := [(_, _), (_, _), (_, _)]) rfl | exact binds_K (binds := [(_, _), (_, _), (_, _)]) (by k_in) rfl (by k_is) rfl rfl rfl) | ((with_reducible show BindsTo _ _ ⟨[_, _, _, _], []⟩ _); first | exact BindsTo.of_eq (binds := [(_, _), (_, _), (_, _), (_, _)]) rfl | exact binds_K (binds := [(_, _), (_, _), (_, _), (_, _)]) (by k_in) rfl (by k_is) rfl rfl rfl) | ((with_reducible show BindsTo _ _ ⟨[_, _, _, _, _], []⟩ _); first | exact BindsTo.of_eq (binds := [(_, _), (_, _), (_, _), (_, _), (_, _)]) rfl | exact binds_K (binds := [(_, _), (_, _), (_, _), (_, _), (_, _)]) (by k_in) rfl (by k_is) rfl rfl rfl)); (case c5 => decide); (case kB => exact locs rfl); (case c2 => exact rfl); (case c3 => exact rfl); (case c4 => exact rfl); k_whole; intro zqoLp zqLp zqhp zqtkp zqFp zqNp zql1 zqn1; (try k_lt zql1); (try (replace zqn1 := allNe_of zqn1; simp only [AllNe, and_true] at zqn1)); (try dsimp only); walk_at "mine texts")))
  k_with "call builtin:str.join" => ((k_here; (with_reducible show wpAny _ _ (call (Value.builtin "str.join") [Value.str _ _, Value.ref _]) _ _ _); k_dflt (refine join_listC (by is_list) (by repeat constructor) (by decide) (by (simp only [List.map_cons, List.map_nil, List.sum_cons, List.sum_nil, List.length_cons, List.length_nil]; omega)) ?_); intro zqtp zqkp))
  k_with "getMethod type:Exception" => ((k_here; refine' method_type ?F ?X ?m (by decide +kernel) ?e ?h ?_; (case F => k_asm); (case X => k_asm); (case m => exact meta_Exception); (case e => k_dflt k_is); (case h => k_handed)))
  k_with "compareOp IsNot" => ((k_here; k_dflt (refine isNot_none (by assumption) ?_)))
  k_with "call builtin:str.format" => ((k_here; k_dflt (refine' line_use ?k1 ?k2 ?k3 ?k4 ?k5 ?k6 ?k7 ?_; (case k1 => assumption); (case k2 => k_asm); (case k3 => k_asm); (case k4 => exact rfl); (case k5 => exact rfl); (case k6 => exact Nat.le_of_ble_eq_true rfl); (case k7 => exact Nat.le_of_ble_eq_true rfl); k_whole; intro zqhp zqup zqtkp zqFp zqNp)))
  k_with "call builtin:str.format" => ((k_here; (with_reducible show wpAny _ _ (call (Value.builtin "str.format") [Value.str _ _, _, _, _, _]) _ _ _); k_dflt (refine' fmt_use ?k1 ?k2 ?k3 ?k4 ?k5 ?_; (case k1 => k_asm); (case k2 => k_asm); (case k3 => exact ⟨rfl, rfl, Nat.le_of_ble_eq_true rfl, Nat.le_of_ble_eq_true rfl⟩); (case k4 => exact args_5 _ _ _ _ _); (case k5 => walk_at "mine fmt")); k_whole; intro zqhp zqup zqtkp zqFp zqNp))
  k_with "pyReprObj" => ((k_here; k_dflt (refine' reprObj_use ?k1 ?k2 ?k3 ?k4 ?k5 ?k6 ?k7 ?_; (case k1 => assumption); (case k2 => k_asm); (case k3 => k_asm); (case k4 => exact rfl); (case k5 => exact rfl); (case k6 => exact Nat.le_of_ble_eq_true rfl); (case k7 => exact Nat.le_of_ble_eq_true rfl); k_whole; intro zqhp zqup zqtkp zqFp zqNp)))
  trivial
theorem halts_ {P : Prop} (h : Halt P) : P := h
structure StackC (w : World) (h h' : Heap) (sa : Addr) (us : List Value) (ds : List PyData) (cn : Nat) (rest : List (Addr × Obj)) : Prop where
  hs : h'.get? sa = some (listOf us.toArray cn)
  ns : h.get? sa = none
  hr : ∀ p ∈ rest, h'.get? p.1 = some p.2 ∧ h.get? p.1 = none
  ne : ∀ p ∈ rest, p.1 ≠ sa
  ok : Stk w rest us ds 40
theorem layS02k3 : True := by
  k_with "exec For" => ((k_here; (rename Fr _ _ _ _ => lF'); (with_unfolding_all refine' For_invVF lF' ?k1 ?k2 ?_; (case k1 => exact rfl); (case k2 => exact rfl); k_whole)))
  k_with "pyIter ref" => ((refine halts_ ?_))
  k_with "call ref" => ((refine halts_ ?_))
  k_with "call builtin:list.append" => ((refine halts_ ?_))
  k_with "call builtin:min" => ((refine halts_ ?_))
  k_with "call builtin:len" => ((refine halts_ ?_))
  k_with "call type:tuple" => ((refine halts_ ?_))
  k_with "subscriptTail Name Slice ref ref" => ((refine halts_ ?_))
  k_with "eval DictComp" => ((k_here; refine halts_ ?_))
  k_with "SrcR" => ((refine halts_ ?_))
  k_with "InvPostG" => ((refine halts_ ?_))
  trivial
theorem stack02 : ∀ {p : Program} {loose : List Str} {mean : ExcName → Option Value} {mg mb : Str → Option Value} (w : World) (s : Shared) (la : Addr) (vs : List Value) (ns : List Int) (hl : s.heap.IsList la vs.toArray) (hi : IntsAre vs ns) (hlen : ns.length ≤ 40)
    (Q E : Value → Shared → Prop) (KX : (hz.heap_129 w.params).In s.heap) (T : Top p loose mean mg mb s.heap)
    (hQ : ∀ h' tk (sa : Addr) (us : List Value) (ds : List PyData) (cn : Nat) (rest : List (Addr × Obj)), Grow s.heap h' → StackC w s.heap h' sa us ds cn rest → Q (.ref sa) { s with heap := h', toks := tk }),
    wpAny (model PySem.Challenge.rw_dm0028_02.prog w) (AD 400 1000) (call (.ref 92) [.ref la]) Q E s := by
  w_top off
  k_fill
  intro p loose mean mg mb w s la vs ns hl hi hlen Q E KX T hQ
  obtain ⟨hh, g, dr, tk, os⟩ := s
  dsimp only at KX T hl hQ
  w_strict (
  refine wpAny_call ?_
  k_dflt (refine' enter_newC (h₀ := hh) (binds := [("script", .ref la)]) ?k1 ?k2 KX T.nolimit ?k5 ?k6 ?k7 ?k8 ?kB ?kD ?_ ?c2 ?c3 ?c4; (case k5 => k_is); (case k6 => k_is); (case k7 => exact Nat.le_of_ble_eq_true rfl); (case k8 => first | exact BindsTo.of_eq rfl | exact binds_K KX rfl (by k_is) rfl rfl rfl); (case kB => exact rfl); (case kD => decide +kernel); (case c2 => exact rfl); (case c3 => exact rfl); (case c4 => exact rfl); (case k1 => exact fun _ _ e => e); (case k2 => exact Nat.le_refl _))
  intro L' h' tk' cells' F' N' Y'
  k_cells Y'
  (try dsimp only)
  walk_at "mine texts"
  k_steps
  unfold Halt
  (with_reducible rename Fr _ _ _ _ => F3)
  (with_reducible rename News _ _ _ _ => N3)
  (with_reducible rename IntsAre _ _ => hi)
  (with_reducible rename Heap.IsList _ _ _ => hl)
  have hsc : @LT.lt Nat _ (L' + 1) _ := (show @LT.lt Nat _ (L' + 1) _ from by assumption)
  refine loop02 (w := w) (c := L' + 1) (vs0 := [_]) (ds0 := [.str (Str.ofString "s")]) (rest0 := []) rfl hl hi hlen F3 N3 (by assumption) ?zs (List.forall_mem_nil _) (Nat.ne_of_gt hsc) rfl ?zturn ?zdone
  case zs =>
    refine ⟨rfl, fun j v d a b => ?_, by decide +kernel, fun d hd => ?_, Nat.le_refl _⟩
    · rcases j with _ | j
      · cases a; cases b
        exact rl_str (by unfold Sg2; decide +kernel) (by decide +kernel)
      · simp at a
    · rw [List.mem_singleton.mp hd]; exact Nat.le_refl _
  case zdone =>
    intro m1 h1 tk1 rest us ds sa cn oc i hi40 hS hne hsc2 F1 N1
    clear F3 N3
    k_steps
    (with_reducible rename Fr _ _ _ _ => F4)
    (with_reducible rename News _ _ _ _ => N4)
    exact hQ _ _ _ us ds cn rest F4.keep ⟨(N4 _ (.head _)).1, (N4 _ (.head _)).2.2, fun p hp => ⟨(N4 p (.tail _ (.tail _ hp))).1, (N4 p (.tail _ (.tail _ hp))).2.2⟩, fun p hp => (hne p hp).1, hS.up hi40⟩
  case zturn =>
    intro i x xt u h1 tk1 rest own us ds sa cn oc v0 hi40 hoc hS hne hsc2 F1 N1 Qt hQt
    clear F3 N3
    have hcnt := hS.cnt
    have hne2 : ∀ p ∈ (L' + 1, oc) :: (rest ++ own), p.1 ≠ sa := fun p hp => by
      rcases List.mem_cons.mp hp with rfl | hp
      · exact Ne.symm hsc2
      · exact (hne p hp).1
    k_steps
    · unfold Halt
      (with_reducible rename Fr _ _ _ _ => F4)
      (with_reducible rename News _ _ _ _ => N4)
      refine app_led F4 N4 hne2 (by omega) ?_
      intro h5 F5 N5
      clear F4 N4
      k_steps
      exact hQt _ _ _ [] (us ++ [_]) (ds ++ [_]) sa (cn + 1) oc v0 F5 (by with_unfolding_all rfl) (fun z zs => by
        have hns : z ∉ stored02 := by
          intro h
          rw [List.contains_iff_mem.mpr h] at zs
          cases zs
        simp only [stored02, List.mem_cons, List.not_mem_nil, or_false, not_or] at hns
        obtain ⟨y1, y2, y3, y4, y5⟩ := hns
        simp only [if_neg y1, if_neg y2, if_neg y3, if_neg y4, if_neg y5, zs]
        rfl) N5 hoc (Stk.push hS rl_none (Nat.zero_le _) sh_none) hne hsc2 (fun p hp => nomatch hp)
    · unfold Halt
      (with_reducible rename Fr _ _ _ _ => F4)
      (with_reducible rename News _ _ _ _ => N4)
      refine app_led F4 N4 hne2 (by omega) ?_
      intro h5 F5 N5
      clear F4 N4
      k_steps
      exact hQt _ _ _ [] (us ++ [_]) (ds ++ [_]) sa (cn + 1) oc v0 F5 (by with_unfolding_all rfl) (fun z zs => by
        have hns : z ∉ stored02 := by
          intro h
          rw [List.contains_iff_mem.mpr h] at zs
          cases zs
        simp only [stored02, List.mem_cons, List.not_mem_nil, or_false, not_or] at hns
        obtain ⟨y1, y2, y3, y4, y5⟩ := hns
        simp only [if_neg y1, if_neg y2, if_neg y3, if_neg y4, if_neg y5, zs]
        rfl) N5 hoc (Stk.push hS rl_bool (Nat.zero_le _) (sh_bool _)) hne hsc2 (fun p hp => nomatch hp)
    · unfold Halt
      (with_reducible rename Fr _ _ _ _ => F4)
      (with_reducible rename News _ _ _ _ => N4)
      have hsi := small_int (Int.fmod_nonneg_of_pos ((if x < 0 then -x else x).fdiv 9) (b := 10 ^ Int.toNat 6) (by decide)) (Int.fmod_lt_of_pos _ (by decide))
      refine app_led F4 N4 hne2 (by omega) ?_
      intro h5 F5 N5
      clear F4 N4
      k_steps
      exact hQt _ _ _ [] (us ++ [_]) (ds ++ [_]) sa (cn + 1) oc v0 F5 (by with_unfolding_all rfl) (fun z zs => by
        have hns : z ∉ stored02 := by
          intro h
          rw [List.contains_iff_mem.mpr h] at zs
          cases zs
        simp only [stored02, List.mem_cons, List.not_mem_nil, or_false, not_or] at hns
        obtain ⟨y1, y2, y3, y4, y5⟩ := hns
        simp only [if_neg y1, if_neg y2, if_neg y3, if_neg y4, if_neg y5, zs]
        rfl) N5 hoc (Stk.push hS (rl_int hsi.2) (Nat.zero_le _) (sh_int hsi.2)) hne hsc2 (fun p hp => nomatch hp)
    · unfold Halt
      (with_reducible rename Fr _ _ _ _ => F4)
      (with_reducible rename News _ _ _ _ => N4)
      have hsi := small_int (Int.fmod_nonneg_of_pos ((if x < 0 then -x else x).fdiv 9) (b := 10 ^ Int.toNat 6) (by decide)) (Int.fmod_lt_of_pos _ (by decide))
      refine app_led F4 N4 hne2 (by omega) ?_
      intro h5 F5 N5
      clear F4 N4
      k_steps
      exact hQt _ _ _ [] (us ++ [_]) (ds ++ [_]) sa (cn + 1) oc v0 F5 (by with_unfolding_all rfl) (fun z zs => by
        have hns : z ∉ stored02 := by
          intro h
          rw [List.contains_iff_mem.mpr h] at zs
          cases zs
        simp only [stored02, List.mem_cons, List.not_mem_nil, or_false, not_or] at hns
        obtain ⟨y1, y2, y3, y4, y5⟩ := hns
        simp only [if_neg y1, if_neg y2, if_neg y3, if_neg y4, if_neg y5, zs]
        rfl) N5 hoc (Stk.push hS (rl_int hsi.1) (Nat.zero_le _) (sh_int hsi.1)) hne hsc2 (fun p hp => nomatch hp)
    iterate 2
      · unfold Halt
        (with_reducible rename Fr _ _ _ _ => F4)
        (with_reducible rename News _ _ _ _ => N4)
        refine str_use2 (P := fun x => Sg2 x ∧ x.length ≤ 4) (fun Q E hQ => text02 w _ _ _ (Int.fmod_nonneg_of_pos _ (by decide)) (Int.fmod_lt_of_pos _ (by decide)) Q E (Frag.In.keeps KX F4.keep) (Top.keeps (by assumption) F4.keep) (fun h' tk x u g a b => hQ h' tk x u g ⟨a, b⟩)) F4 N4 rfl rfl (Nat.le_of_ble_eq_true rfl) (Nat.le_of_ble_eq_true rfl) ?_
        intro h6 tk6 z zt hz F6 N6
        clear F4 N4
        k_steps
        unfold Halt
        (with_reducible rename Fr _ _ _ _ => F4)
        (with_reducible rename News _ _ _ _ => N4)
        refine app_led F4 N4 hne2 (by omega) ?_
        intro h5 F5 N5
        clear F4 N4
        k_steps
        exact hQt _ _ _ [] (us ++ [_]) (ds ++ [_]) sa (cn + 1) oc v0 F5 (by with_unfolding_all rfl) (fun z zs => by
        have hns : z ∉ stored02 := by
          intro h
          rw [List.contains_iff_mem.mpr h] at zs
          cases zs
        simp only [stored02, List.mem_cons, List.not_mem_nil, or_false, not_or] at hns
        obtain ⟨y1, y2, y3, y4, y5⟩ := hns
        simp only [if_neg y1, if_neg y2, if_neg y3, if_neg y4, if_neg y5, zs]
        rfl) N5 hoc (Stk.push hS (rl_str hz.1 hz.2) (Nat.zero_le _) (sh_str hz.1 hz.2)) hne hsc2 (fun p hp => nomatch hp)
    · unfold Halt
      (with_reducible rename Fr _ _ _ _ => F4)
      (with_reducible rename News _ _ _ _ => N4)
      refine len_led N4 (.head _) (by omega) ?_
      intro lt ltk
      k_steps
      unfold Halt
      (with_reducible rename Fr _ _ _ _ => F5)
      (with_reducible rename News _ _ _ _ => N5)
      refine min_use F5 N5 rfl (Int.fmod_nonneg_of_pos _ (by decide)) (Int.fmod_lt_of_pos _ (by decide)) ?_
      intro h6 tk6 k kt hku hk2 F6 N6
      clear F5 N5
      k_steps
      unfold Halt
      (with_reducible rename Fr _ _ _ _ => F7)
      (with_reducible rename News _ _ _ _ => N7)
      refine len_led N7 (.head _) (by omega) ?_
      intro lt2 ltk2
      k_steps
      unfold Halt
      (with_reducible rename Fr _ _ _ _ => F8)
      (with_reducible rename News _ _ _ _ => N8)
      refine slice_from (s := ⟨_, _, _, _, _⟩) F8 N8 (.head _) hku rfl (by omega) ?_
      intro ta h9 F9 N9 l9
      clear F8 N8
      k_steps
      refine storeX_C F9 N9 (c := L' + 1) rfl (.tail (Nat.ne_of_gt (l9 _ (.tail _ (.head _)))) (.tail hsc2 (.head (fun p hp => (hne p hp).2)))) hoc ?_
      intro ha oc2 Fa Na hoc2
      clear F9 N9
      k_steps
      unfold Halt
      (with_reducible rename Fr _ _ _ _ => Fb)
      (with_reducible rename News _ _ _ _ => Nb)
      refine len_led Nb (.tail _ (.head _)) (by omega) ?_
      intro lt3 ltk3
      k_steps
      unfold Halt
      (with_reducible rename Fr _ _ _ _ => Fc)
      (with_reducible rename News _ _ _ _ => Nc)
      refine slice_upto (s := ⟨_, _, _, _, _⟩) Fc Nc (.tail _ (.head _)) hku rfl (by omega) ?_
      intro sb hd Fd Nd ld
      clear Fc Nc
      have hT := hS.last (k := us.length - k)
      have hTl : (us.drop (us.length - k)).length ≤ 2 := by rw [List.length_drop]; omega
      k_steps
      · unfold Halt
        (with_reducible rename Fr _ _ _ _ => Fe)
        (with_reducible rename News _ _ _ _ => Ng)
        have hta1 := ne_one KX Ng _ (.tail _ (.head _))
        have hnew : ∀ p ∈ ([(ta, listOf (us.drop (us.length - k)).toArray 0), (sa, listOf us.toArray cn)] : List (Addr × Obj)) ++ (rest ++ own), p.1 ≠ sb ∧ p.1 ≠ L' + 1 := (fun p hp => by
          simp only [List.mem_append, List.mem_cons, List.not_mem_nil, or_false] at hp
          rcases hp with (rfl | rfl) | hp
          · exact ⟨Nat.ne_of_lt (ld _ (.head _)), Nat.ne_of_gt (l9 _ (.tail _ (.head _)))⟩
          · exact ⟨Nat.ne_of_lt (ld _ (.tail _ (.head _))), hsc2⟩
          · exact ⟨Nat.ne_of_lt (ld p (.tail _ (.tail _ (.tail _ (List.mem_append.mpr hp))))), (hne p (List.mem_append.mpr hp)).2⟩)
        refine app_led Fe (perm2 Ng) (fun p hp => by
          rcases List.mem_cons.mp hp with rfl | hp
          · exact Nat.ne_of_lt (ld _ (.tail _ (.tail _ (.head _))))
          · exact (hnew p hp).1) (by rw [List.length_take]; omega) ?_
        intro hz Fz Nz
        clear Fe Ng
        k_steps
        exact hQt _ _ _ [(ta, listOf (us.drop (us.length - k)).toArray 0), (sa, listOf us.toArray cn)] (us.take (us.length - k) ++ [_]) (ds.take (us.length - k) ++ [_]) sb _ oc2 _ Fz (by with_unfolding_all rfl) (fun z zs => by
        have hns : z ∉ stored02 := by
          intro h
          rw [List.contains_iff_mem.mpr h] at zs
          cases zs
        simp only [stored02, List.mem_cons, List.not_mem_nil, or_false, not_or] at hns
        obtain ⟨y1, y2, y3, y4, y5⟩ := hns
        simp only [if_neg y1, if_neg y2, if_neg y3, if_neg y4, if_neg y5, zs]
        rfl) Nz hoc2 (Stk.fold (hS.sub (fun p hp => List.mem_append_right _ hp)) hku (rl_list (.head _) hta1 hT.1 hTl (fun j v d a b => (hT.2 j v d a b).sub (fun p hp => List.mem_append_right _ hp))) (by simp only [PyData.depth]; exact Nat.le_refl _) (Nat.le_trans (list_shown _) (by omega))) hnew (Nat.ne_of_gt (ld _ (.tail _ (.tail _ (.head _))))) (fun p hp q hq => by
          simp only [List.mem_cons, List.not_mem_nil, or_false] at hp
          rcases hp with rfl | rfl
          · exact Nat.ne_of_lt (l9 q (.tail _ (.tail _ hq)))
          · exact (hne q hq).1)
      · unfold Halt
        (with_reducible rename Fr _ _ _ _ => F0)
        refine DictComp_R (its := us.drop (us.length - k)) F0 (by with_unfolding_all rfl) (by decide) (by rfl) (by decide) (by rfl) (fun _ => by rfl) (fun _ => by rfl) (fun _ => by rfl) (by decide) (by decide) ?_
        k_steps
        unfold Halt
        (with_reducible rename Fr _ _ _ _ => Fe)
        (with_reducible rename News _ _ _ _ => Ne1)
        (with_reducible rename IsRange _ _ _ _ _ _ _ _ => hr)
        refine ⟨_, _, _, _, k, (sb, listOf (us.take (us.length - k)).toArray 0) :: (ta, listOf (us.drop (us.length - k)).toArray 0) :: (sa, listOf us.toArray cn) :: (L' + 1, oc2) :: (rest ++ own), L' + 1, oc2, ta, 0, rfl, rfl, Fe, (fun p hp => Ne1 p ?zsub), hr, hk2, (by rw [List.length_drop]; omega), rfl, .tail _ (.tail _ (.tail _ (.head _))), hoc2, .tail _ (.head _), ?zfin⟩
        case zsub => first | exact hp | exact .tail _ hp
        case zfin =>
          intro D oD hf tkf Ff Nf lD hdo
          clear Fe Ne1
          k_steps
          unfold Halt
          (with_reducible rename Fr _ _ _ _ => Fg)
          (with_reducible rename News _ _ _ _ => Ng)
          have hD1 := ne_one KX Ng _ (.head _)
          have hnew : ∀ p ∈ ([(D, oD), (ta, listOf (us.drop (us.length - k)).toArray 0), (sa, listOf us.toArray cn)] : List (Addr × Obj)) ++ (rest ++ own), p.1 ≠ sb ∧ p.1 ≠ L' + 1 := (fun p hp => by
            simp only [List.mem_append, List.mem_cons, List.not_mem_nil, or_false] at hp
            rcases hp with (rfl | rfl | rfl) | hp
            · exact ⟨Ne.symm (lD _ (.head _)), Ne.symm (lD _ (.tail _ (.tail _ (.tail _ (.head _)))))⟩
            · exact ⟨Nat.ne_of_lt (ld _ (.head _)), Nat.ne_of_gt (l9 _ (.tail _ (.head _)))⟩
            · exact ⟨Nat.ne_of_lt (ld _ (.tail _ (.head _))), hsc2⟩
            · exact ⟨Nat.ne_of_lt (ld p (.tail _ (.tail _ (.tail _ (List.mem_append.mpr hp))))), (hne p (List.mem_append.mpr hp)).2⟩)
          refine app_led Fg (perm3 Ng) (fun p hp => by
            rcases List.mem_cons.mp hp with rfl | hp
            · exact Nat.ne_of_lt (ld _ (.tail _ (.tail _ (.head _))))
            · exact (hnew p hp).1) (by rw [List.length_take]; omega) ?_
          intro hz Fz Nz
          clear Fg Ng
          k_steps
          exact hQt _ _ _ [(D, oD), (ta, listOf (us.drop (us.length - k)).toArray 0), (sa, listOf us.toArray cn)] (us.take (us.length - k) ++ [_]) (ds.take (us.length - k) ++ [_]) sb _ oc2 _ Fz (by with_unfolding_all rfl) (fun z zs => by
        have hns : z ∉ stored02 := by
          intro h
          rw [List.contains_iff_mem.mpr h] at zs
          cases zs
        simp only [stored02, List.mem_cons, List.not_mem_nil, or_false, not_or] at hns
        obtain ⟨y1, y2, y3, y4, y5⟩ := hns
        simp only [if_neg y1, if_neg y2, if_neg y3, if_neg y4, if_neg y5, zs]
        rfl) Nz hoc2 (Stk.fold (hS.sub (fun p hp => List.mem_append_right _ hp)) hku (rl_dict (.head _) hdo hD1 hT.1 hTl (fun j v d a b => (hT.2 j v d a b).sub (fun p hp => List.mem_append_right _ hp))) (pair_depth _ (by rw [← hT.1]; exact hTl)) (Nat.le_trans (dict_shown _) (by omega))) hnew (Nat.ne_of_gt (ld _ (.tail _ (.tail _ (.head _))))) (fun p hp q hq => by
            simp only [List.mem_cons, List.not_mem_nil, or_false] at hp
            rcases hp with rfl | rfl | rfl
            · exact lD q (.tail _ (.tail _ (.tail _ (.tail _ hq))))
            · exact Nat.ne_of_lt (l9 q (.tail _ (.tail _ hq)))
            · exact (hne q hq).1)
      · unfold Halt
        (with_reducible rename Fr _ _ _ _ => Fe)
        (with_reducible rename News _ _ _ _ => Ne1)
        refine tup_use Fe Ne1 (.tail _ (.head _)) (by omega) ?_
        intro tp hf Ff Nf lf
        clear Fe Ne1
        k_steps
        unfold Halt
        (with_reducible rename Fr _ _ _ _ => Fg)
        (with_reducible rename News _ _ _ _ => Ng)
        have hnew : ∀ p ∈ ([(tp, tupObj (us.drop (us.length - k))), (ta, listOf (us.drop (us.length - k)).toArray 0), (sa, listOf us.toArray cn)] : List (Addr × Obj)) ++ (rest ++ own), p.1 ≠ sb ∧ p.1 ≠ L' + 1 := (fun p hp => by
          simp only [List.mem_append, List.mem_cons, List.not_mem_nil, or_false] at hp
          rcases hp with (rfl | rfl | rfl) | hp
          · exact ⟨Nat.ne_of_gt (lf _ (.head _)), Nat.ne_of_gt (lf _ (.tail _ (.tail _ (.tail _ (.head _)))))⟩
          · exact ⟨Nat.ne_of_lt (ld _ (.head _)), Nat.ne_of_gt (l9 _ (.tail _ (.head _)))⟩
          · exact ⟨Nat.ne_of_lt (ld _ (.tail _ (.head _))), hsc2⟩
          · exact ⟨Nat.ne_of_lt (ld p (.tail _ (.tail _ (.tail _ (List.mem_append.mpr hp))))), (hne p (List.mem_append.mpr hp)).2⟩)
        refine app_led Fg (perm3 Ng) (fun p hp => by
          rcases List.mem_cons.mp hp with rfl | hp
          · exact Nat.ne_of_lt (ld _ (.tail _ (.tail _ (.head _))))
          · exact (hnew p hp).1) (by rw [List.length_take]; omega) ?_
        intro hz Fz Nz
        clear Fg Ng
        k_steps
        exact hQt _ _ _ [(tp, tupObj (us.drop (us.length - k))), (ta, listOf (us.drop (us.length - k)).toArray 0), (sa, listOf us.toArray cn)] (us.take (us.length - k) ++ [_]) (ds.take (us.length - k) ++ [_]) sb _ oc2 _ Fz (by with_unfolding_all rfl) (fun z zs => by
        have hns : z ∉ stored02 := by
          intro h
          rw [List.contains_iff_mem.mpr h] at zs
          cases zs
        simp only [stored02, List.mem_cons, List.not_mem_nil, or_false, not_or] at hns
        obtain ⟨y1, y2, y3, y4, y5⟩ := hns
        simp only [if_neg y1, if_neg y2, if_neg y3, if_neg y4, if_neg y5, zs]
        rfl) Nz hoc2 (Stk.fold (hS.sub (fun p hp => List.mem_append_right _ hp)) hku (rl_tup (.head _) hT.1 (Nat.le_trans hTl (by decide)) (fun j v d a b => (hT.2 j v d a b).sub (fun p hp => List.mem_append_right _ hp))) (by simp only [PyData.depth]; exact Nat.le_refl _) (Nat.le_trans (tup_shown _) (by omega))) hnew (Nat.ne_of_gt (ld _ (.tail _ (.tail _ (.head _))))) (fun p hp q hq => by
          simp only [List.mem_cons, List.not_mem_nil, or_false] at hp
          rcases hp with rfl | rfl | rfl
          · exact Nat.ne_of_lt (lf q (.tail _ (.tail _ (.tail _ (.tail _ hq)))))
          · exact Nat.ne_of_lt (l9 q (.tail _ (.tail _ hq)))
          · exact (hne q hq).1)
)
end
section
theorem layKc021 : True := by
  k_with_none
  k_with "ne" => (with_reducible (first | exact ns1 | exact ns2 | exact qlt (by assumption) | exact qgt (by assumption) | exact qne (by assumption) | exact qen (by assumption) | exact rlt (by assumption) | exact rgt (by assumption) | exact rne (by assumption) | exact ren (by assumption) | exact qlt (And.right (by assumption)) | exact qgt (And.right (by assumption)) | exact qne (And.right (by assumption)) | exact qen (And.right (by assumption)) | exact rlt (And.right (by assumption)) | exact rgt (And.right (by assumption)) | exact rne (And.right (by assumption)) | exact ren (And.right (by assumption)) | exact qlt (And.right (And.right (by assumption))) | exact qgt (And.right (And.right (by assumption))) | exact qne (And.right (And.right (by assumption))) | exact qen (And.right (And.right (by assumption))) | exact rlt (And.right (And.right (by assumption))) | exact rgt (And.right (And.right (by assumption))) | exact rne (And.right (And.right (by assumption))) | exact ren (And.right (And.right (by assumption))) | exact qlt (And.right (And.right (And.right (by assumption)))) | exact qgt (And.right (And.right (And.right (by assumption)))) | exact qne (And.right (And.right (And.right (by assumption)))) | exact qen (And.right (And.right (And.right (by assumption)))) | exact rlt (And.right (And.right (And.right (by assumption)))) | exact rgt (And.right (And.right (And.right (by assumption)))) | exact rne (And.right (And.right (And.right (by assumption)))) | exact ren (And.right (And.right (And.right (by assumption)))) | exact qlt (And.right (And.right (And.right (And.right (by assumption))))) | exact qgt (And.right (And.right (And.right (And.right (by assumption))))) | exact qne (And.right (And.right (And.right (And.right (by assumption))))) | exact qen (And.right (And.right (And.right (And.right (by assumption))))) | exact rlt (And.right (And.right (And.right (And.right (by assumption))))) | exact rgt (And.right (And.right (And.right (And.right (by assumption))))) | exact rne (And.right (And.right (And.right (And.right (by assumption))))) | exact ren (And.right (And.right (And.right (And.right (by assumption))))) | exact qlt (And.right (And.right (And.right (And.right (And.right (by assumption)))))) | exact qgt (And.right (And.right (And.right (And.right (And.right (by assumption)))))) | exact qne (And.right (And.right (And.right (And.right (And.right (by assumption)))))) | exact qen (And.right (And.right (And.right (And.right (And.right (by assumption)))))) | exact rlt (And.right (And.right (And.right (And.right (And.right (by assumption)))))) | exact rgt (And.right (And.right (And.right (And.right (And.right (by assumption)))))) | exact rne (And.right (And.right (And.right (And.right (And.right (by assumption)))))) | exact ren (And.right (And.right (And.right (And.right (And.right (by assumption)))))) | exact qlt (And.right (And.right (And.right (And.right (And.right (And.right (by assumption))))))) | exact qgt (And.right (And.right (And.right (And.right (And.right (And.right (by assumption))))))) | exact qne (And.right (And.right (And.right (And.right (And.right (And.right (by assumption))))))) | exact qen (And.right (And.right (And.right (And.right (And.right (And.right (by assumption))))))) | exact rlt (And.right (And.right (And.right (And.right (And.right (And.right (by assumption))))))) | exact rgt (And.right (And.right (And.right (And.right (And.right (And.right (by assumption))))))) | exact rne (And.right (And.right (And.right (And.right (And.right (And.right (by assumption))))))) | exact ren (And.right (And.right (And.right (And.right (And.right (And.right (by assumption))))))) | exact qlt (And.right (And.right (And.right (And.right (And.right (And.right (And.right (by assumption)))))))) | exact qgt (And.right (And.right (And.right (And.right (And.right (And.right (And.right (by assumption)))))))) | exact qne (And.right (And.right (And.right (And.right (And.right (And.right (And.right (by assumption)))))))) | exact qen (And.right (And.right (And.right (And.right (And.right (And.right (And.right (by assumption)))))))) | exact rlt (And.right (And.right (And.right (And.right (And.right (And.right (And.right (by assumption)))))))) | exact rgt (And.right (And.right (And.right (And.right (And.right (And.right (And.right (by assumption)))))))) | exact rne (And.right (And.right (And.right (And.right (And.right (And.right (And.right (by assumption)))))))) | exact ren (And.right (And.right (And.right (And.right (And.right (And.right (And.right (by assumption)))))))) | exact qlt (And.right (And.right (And.right (And.right (And.right (And.right (And.right (And.right (by assumption))))))))) | exact qgt (And.right (And.right (And.right (And.right (And.right (And.right (And.right (And.right (by assumption))))))))) | exact qne (And.right (And.right (And.right (And.right (And.right (And.right (And.right (And.right (by assumption))))))))) | exact qen (And.right (And.right (And.right (And.right (And.right (And.right (And.right (And.right (by assumption))))))))) | exact rlt (And.right (And.right (And.right (And.right (And.right (And.right (And.right (And.right (by assumption))))))))) | exact rgt (And.right (And.right (And.right (And.right (And.right (And.right (And.right (And.right (by assumption))))))))) | exact rne (And.right (And.right (And.right (And.right (And.right (And.right (And.right (And.right (by assumption))))))))) | exact ren (And.right (And.right (And.right (And.right (And.right (And.right (And.right (And.right (by assumption))))))))) | exact qlt (And.right (And.right (And.right (And.right (And.right (And.right (And.right (And.right (And.right (by assumption)))))))))) | exact qgt (And.right (And.right (And.right (And.right (And.right (And.right (And.right (And.right (And.right (by assumption)))))))))) | exact qne (And.right (And.right (And.right (And.right (And.right (And.right (And.right (And.right (And.right (by assumption)))))))))) | exact qen (And.right (And.right (And.right (And.right (And.right (And.right (And.right (And.right (And.right (by assumption)))))))))) | exact rlt (And.right (And.right (And.right (And.right (And.right (And.right (And.right (And.right (And.right (by assumption)))))))))) | exact rgt (And.right (And.right (And.right (And.right (And.right (And.right (And.right (And.right (And.right (by assumption)))))))))) | exact rne (And.right (And.right (And.right (And.right (And.right (And.right (And.right (And.right (And.right (by assumption)))))))))) | exact ren (And.right (And.right (And.right (And.right (And.right (And.right (And.right (And.right (And.right (by assumption)))))))))) | exact qlt (And.right (And.right (And.right (And.right (And.right (And.right (And.right (And.right (And.right (And.right (by assumption))))))))))) | exact qgt (And.right (And.right (And.right (And.right (And.right (And.right (And.right (And.right (And.right (And.right (by assumption))))))))))) | exact qne (And.right (And.right (And.right (And.right (And.right (And.right (And.right (And.right (And.right (And.right (by assumption))))))))))) | exact qen (And.right (And.right (And.right (And.right (And.right (And.right (And.right (And.right (And.right (And.right (by assumption))))))))))) | exact rlt (And.right (And.right (And.right (And.right (And.right (And.right (And.right (And.right (And.right (And.right (by assumption))))))))))) | exact rgt (And.right (And.right (And.right (And.right (And.right (And.right (And.right (And.right (And.right (And.right (by assumption))))))))))) | exact rne (And.right (And.right (And.right (And.right (And.right (And.right (And.right (And.right (And.right (And.right (by assumption))))))))))) | exact ren (And.right (And.right (And.right (And.right (And.right (And.right (And.right (And.right (And.right (And.right (by assumption))))))))))) | exact qlt (And.right (And.right (And.right (And.right (And.right (And.right (And.right (And.right (And.right (And.right (And.right (by assumption)))))))))))) | exact qgt (And.right (And.right (And.right (And.right (And.right (And.right (And.right (And.right (And.right (And.right (And.right (by assumption)))))))))))) | exact qne (And.right (And.right (And.right (And.right (And.right (And.right (And.right (And.right (And.right (And.right (And.right (by assumption)))))))))))) | exact qen (And.right (And.right (And.right (And.right (And.right (And.right (And.right (And.right (And.right (And.right (And.right (by assumption)))))))))))) | exact rlt (And.right (And.right (And.right (And.right (And.right (And.right (And.right (And.right (And.right (And.right (And.right (by assumption)))))))))))) | exact rgt (And.right (And.right (And.right (And.right (And.right (And.right (And.right (And.right (And.right (And.right (And.right (by assumption)))))))))))) | exact rne (And.right (And.right (And.right (And.right (And.right (And.right (And.right (And.right (And.right (And.right (And.right (by assumption)))))))))))) | exact ren (And.right (And.right (And.right (And.right (And.right (And.right (And.right (And.right (And.right (And.right (And.right (by assumption)))))))))))) | exact qlt (And.right (And.right (And.right (And.right (And.right (And.right (And.right (And.right (And.right (And.right (And.right (And.right (by assumption))))))))))))) | exact qgt (And.right (And.right (And.right (And.right (And.right (And.right (And.right (And.right (And.right (And.right (And.right (And.right (by assumption))))))))))))) | exact qne (And.right (And.right (And.right (And.right (And.right (And.right (And.right (And.right (And.right (And.right (And.right (And.right (by assumption))))))))))))) | exact qen (And.right (And.right (And.right (And.right (And.right (And.right (And.right (And.right (And.right (And.right (And.right (And.right (by assumption))))))))))))) | exact rlt (And.right (And.right (And.right (And.right (And.right (And.right (And.right (And.right (And.right (And.right (And.right (And.right (by assumption))))))))))))) | exact rgt (And.right (And.right (And.right (And.right (And.right (And.right (And.right (And.right (And.right (And.right (And.right (And.right (by assumption))))))))))))) | exact rne (And.right (And.right (And.right (And.right (And.right (And.right (And.right (And.right (And.right (And.right (And.right (And.right (by assumption))))))))))))) | exact ren (And.right (And.right (And.right (And.right (And.right (And.right (And.right (And.right (And.right (And.right (And.right (And.right (by assumption))))))))))))) | exact qlt (And.right (And.right (And.right (And.right (And.right (And.right (And.right (And.right (And.right (And.right (And.right (And.right (And.right (by assumption)))))))))))))) | exact qgt (And.right (And.right (And.right (And.right (And.right (And.right (And.right (And.right (And.right (And.right (And.right (And.right (And.right (by assumption)))))))))))))) | exact qne (And.right (And.right (And.right (And.right (And.right (And.right (And.right (And.right (And.right (And.right (And.right (And.right (And.right (by assumption)))))))))))))) | exact qen (And.right (And.right (And.right (And.right (And.right (And.right (And.right (And.right (And.right (And.right (And.right (And.right (And.right (by assumption)))))))))))))) | exact rlt (And.right (And.right (And.right (And.right (And.right (And.right (And.right (And.right (And.right (And.right (And.right (And.right (And.right (by assumption)))))))))))))) | exact rgt (And.right (And.right (And.right (And.right (And.right (And.right (And.right (And.right (And.right (And.right (And.right (And.right (And.right (by assumption)))))))))))))) | exact rne (And.right (And.right (And.right (And.right (And.right (And.right (And.right (And.right (And.right (And.right (And.right (And.right (And.right (by assumption)))))))))))))) | exact ren (And.right (And.right (And.right (And.right (And.right (And.right (And.right (And.right (And.right (And.right (And.right (And.right (And.right (by assumption)))))))))))))) | exact qlt (And.right (And.right (And.right (And.right (And.right (And.right (And.right (And.right (And.right (And.right (And.right (And.right (And.right (And.right (by assumption))))))))))))))) | exact qgt (And.right (And.right (And.right (And.right (And.right (And.right (And.right (And.right (And.right (And.right (And.right (And.right (And.right (And.right (by assumption))))))))))))))) | exact qne (And.right (And.right (And.right (And.right (And.right (And.right (And.right (And.right (And.right (And.right (And.right (And.right (And.right (And.right (by assumption))))))))))))))) | exact qen (And.right (And.right (And.right (And.right (And.right (And.right (And.right (And.right (And.right (And.right (And.right (And.right (And.right (And.right (by assumption))))))))))))))) | exact rlt (And.right (And.right (And.right (And.right (And.right (And.right (And.right (And.right (And.right (And.right (And.right (And.right (And.right (And.right (by assumption))))))))))))))) | exact rgt (And.right (And.right (And.right (And.right (And.right (And.right (And.right (And.right (And.right (And.right (And.right (And.right (And.right (And.right (by assumption))))))))))))))) | exact rne (And.right (And.right (And.right (And.right (And.right (And.right (And.right (And.right (And.right (And.right (And.right (And.right (And.right (And.right (by assumption))))))))))))))) | exact ren (And.right (And.right (And.right (And.right (And.right (And.right (And.right (And.right (And.right (And.right (And.right (And.right (And.right (And.right (by assumption))))))))))))))) | exact qlt (And.right (And.right (And.right (And.right (And.right (And.right (And.right (And.right (And.right (And.right (And.right (And.right (And.right (And.right (And.right (by assumption)))))))))))))))) | exact qgt (And.right (And.right (And.right (And.right (And.right (And.right (And.right (And.right (And.right (And.right (And.right (And.right (And.right (And.right (And.right (by assumption)))))))))))))))) | exact qne (And.right (And.right (And.right (And.right (And.right (And.right (And.right (And.right (And.right (And.right (And.right (And.right (And.right (And.right (And.right (by assumption)))))))))))))))) | exact qen (And.right (And.right (And.right (And.right (And.right (And.right (And.right (And.right (And.right (And.right (And.right (And.right (And.right (And.right (And.right (by assumption)))))))))))))))) | exact rlt (And.right (And.right (And.right (And.right (And.right (And.right (And.right (And.right (And.right (And.right (And.right (And.right (And.right (And.right (And.right (by assumption)))))))))))))))) | exact rgt (And.right (And.right (And.right (And.right (And.right (And.right (And.right (And.right (And.right (And.right (And.right (And.right (And.right (And.right (And.right (by assumption)))))))))))))))) | exact rne (And.right (And.right (And.right (And.right (And.right (And.right (And.right (And.right (And.right (And.right (And.right (And.right (And.right (And.right (And.right (by assumption)))))))))))))))) | exact ren (And.right (And.right (And.right (And.right (And.right (And.right (And.right (And.right (And.right (And.right (And.right (And.right (And.right (And.right (And.right (by assumption))))))))))))))))))
  trivial
theorem layKc022 : True := by
  k_with "mine texts" => ((try dsimp only [← sx0, ← sx1, ← sx2, ← sx3, ← sx4, ← sx5, ← sx6, ← sx7, ← sx8, ← sx9, ← sx10, ← sx11, ← sx12, ← sx13, ← sx14, ← sx15, ← sx16, ← sx17, ← sx18, ← sx19, ← sx20, ← sx21, ← sx22, ← sx23, ← sx24, ← sx25, ← sx26, ← sx27, ← sx28, ← sx29, ← sx30, ← sx31, ← sx32, ← sx33, ← sx34, ← sx35, ← sx36, ← sx37, ← sx38, ← sx39, ← sx40, ← sx41, ← sx42, ← sx43, ← sx44, ← sx45, ← sx46, ← sx47, ← sx48, ← sx49, ← sx50, ← sx51, ← sx52, ← sx53, ← sx54, ← sx55, ← sx56, ← sx57, ← sx58, ← sx59, ← sx60, ← sx61, ← sx62, ← sx63, ← sx64, ← sx65, ← sx66, ← sx67, ← sx68, ← sx69, ← sx70, ← sx71, ← sx72, ← sx73, ← sx74, ← sx75, ← sx76, ← sx77, ← sx78, ← sx79, ← sx80, ← sx81, ← sx82, ← sx83, ← sx84, ← sx85, ← sx86, ← sx87, ← sx88, ← sx89, ← sx90, ← sx91, ← sx92]))
  k_with "mine drop" => (first | (refine' Drop.head ?a; (case a => k_all)) | (refine' Drop.tail ?a ?b; (case a => k_ne); (case b => walk_at "mine drop")))
  k_with "setAttr ref" => ((k_here; k_dflt (first | (refine' exc_set0 ?k1 ?k2 ?k3 ?k4 ?k5 ?k6 ?k7 ?k8 ?k9 ?_; (case k1 => k_asm); (case k2 => k_asm); (case k3 => k_asm); (case k4 => k_mem); (case k5 => k_is); (case k6 => kernel_rfl); (case k7 => k_is); (case k8 => k_is); (case k9 => intro zqd; k_upd); k_whole; intro zqdp zqhp zqFp zqNp zql1; (try k_lt zql1)) | (refine' exc_set_args ?k1 ?k2 ?k3 ?k4 ?k5 ?k6 ?k7 ?k8 ?k9 ?k10 ?_; (case k1 => k_asm); (case k2 => k_asm); (case k3 => k_asm); (case k4 => first | (refine' InstAt.of_exc ?N ?h1 ?h2; (case N => k_asm); (case h1 => k_mem); (case h2 => k_mem)) | (refine' InstAt.of_exc0 ?N ?h1; (case N => k_asm); (case h1 => k_mem))); (case k5 => exact isTup_of (by k_asm) (by k_mem)); (case k6 => k_is); (case k7 => kernel_rfl); (case k8 => k_is); (case k9 => k_is); (case k10 => k_upd); k_whole; intro zqhp zqFp zqNp) | (refine' exc_set ?k1 ?k2 ?k3 ?k4 ?k5 ?k6 ?k7 ?k8 ?k9 ?k10 ?k11 ?k12 ?_; (case k1 => k_asm); (case k2 => k_asm); (case k3 => k_asm); (case k4 => first | (refine' InstAt.of_exc ?N ?h1 ?h2; (case N => k_asm); (case h1 => k_mem); (case h2 => k_mem)) | (refine' InstAt.of_exc0 ?N ?h1; (case N => k_asm); (case h1 => k_mem))); (case k5 => k_is); (case k6 => kernel_rfl); (case k7 => k_is); (case k8 => k_is); (case k9 => k_get); (case k10 => k_put); (case k11 => k_upd); (case k12 => exact Nat.le_of_ble_eq_true rfl); k_whole; intro zqhp zqFp zqNp))))
  k_with "call builtin:Exception.__init__" => ((k_here; k_dflt (refine' exc_init_call ?k1 ?k2 ?k3 ?k4 ?k5 ?k6 ?_; (case k1 => k_asm); (case k2 => k_asm); (case k3 => k_asm); (case k4 => first | (refine' InstAt.of_exc ?N ?h1 ?h2; (case N => k_asm); (case h1 => k_mem); (case h2 => k_mem)) | (refine' InstAt.of_exc0 ?N ?h1; (case N => k_asm); (case h1 => k_mem))); (case k5 => k_is); (case k6 => intro zqt; k_upd); k_whole; intro zqtp zqhp zqFp zqNp zql1; (try k_lt zql1))))
  k_with "call builtin:repr" => ((k_here; k_dflt (refine' repr_use ?k1 ?k2 ?k3 ?k4 ?k5 ?k6 ?k7 ?_; (case k1 => assumption); (case k2 => k_asm); (case k3 => k_asm); (case k4 => exact rfl); (case k5 => exact rfl); (case k6 => exact Nat.le_of_ble_eq_true rfl); (case k7 => exact Nat.le_of_ble_eq_true rfl); k_whole; intro zqhp zqup zqtkp zqFp zqNp)))
  k_with "BackIn" => ((k_dflt (refine' back_ ?k1 ?k2 ?k3 ?_; (case k1 => k_asm); (case k2 => k_asm); (case k3 => walk_at "mine drop"); k_whole; intro zqFp zqNp; (try dsimp only))))
  k_with "call ref" => ((k_here; k_dflt (refine wpAny_call ?_; refine' enter_in ?k1 ?k2 ?k3 ?k4 ?k5 ?k6 ?k7 ?k8 ?kB ?c2 ?c3 ?c4 ?c5 ?_; (case k1 => k_asm); (case k2 => k_asm); (case k3 => k_asm); (case k4 => exact Top.nolimit (by assumption)); (case k5 => k_is); (case k6 => k_is); (case k7 => exact Nat.le_of_ble_eq_true rfl); (case k8 => first | ((with_reducible show BindsTo _ _ ⟨[_], []⟩ _); first | exact BindsTo.of_eq (binds := [(_, _)]) rfl | exact binds_K (binds := [(_, _)]) (by k_in) rfl (by k_is) rfl rfl rfl) | ((with_reducible show BindsTo _ _ ⟨[_, _], []⟩ _); first | exact BindsTo.of_eq (binds := [(_, _), (_, _)]) rfl | exact binds_K (binds := [(_, _), (_, _)]) (by k_in) rfl (by k_is) rfl rfl rfl) | ((with_reducible show BindsTo _ _ ⟨[_, _, _], []⟩ _); first | exact BindsTo.of_eq (binds := [(_, _), (_, _), (_, _)]) rfl | exact binds_K (binds := [(_, _), (_, _), (_, _)]) (by k_in) rfl (by k_is) rfl rfl rfl) | ((with_reducible show BindsTo _ _ ⟨[_, _, _, _], []⟩ _); first | exact BindsTo.of_eq (binds := [(_, _), (_, _), (_, _), (_, _)]) rfl | exact binds_K (binds := [(_, _), (_, _), (_, _), (_, _)]) (by k_in) rfl (by k_is) rfl rfl rfl) | ((with_reducible show BindsTo _ _ ⟨[_, _, _, _, _], []⟩ _); first | exact BindsTo.of_eq (binds := [(_, _), (_, _), (_, _), (_, _), (_, _)]) rfl | exact binds_K (binds := [(_, _), (_, _), (_, _), (_, _), (_, _)]) (by k_in) rfl (by k_is) rfl rfl rfl)); (case c5 => decide); (case kB => exact locs rfl); (case c2 => exact rfl); (case c3 => exact rfl); (case c4 => exact rfl); k_whole; intro zqoLp zqLp zqhp zqtkp zqFp zqNp zql1 zqn1; (try k_lt zql1); (try (replace zqn1 := allNe_of zqn1; simp only [AllNe, and_true] at zqn1)); (try dsimp only); walk_at "mine texts")))
  k_with "call builtin:str.join" => ((k_here; (with_reducible show wpAny _ _ (call (Value.builtin "str.join") [Value.str _ _, Value.ref _]) _ _ _); k_dflt (refine join_listC (by is_list) (by repeat constructor) (by decide) (by (simp only [List.map_cons, List.map_nil, List.sum_cons, List.sum_nil, List.length_cons, List.length_nil]; omega)) ?_); intro zqtp zqkp))
  k_with "getMethod type:Exception" => ((k_here; refine' method_type ?F ?X ?m (by decide +kernel) ?e ?h ?_; (case F => k_asm); (case X => k_asm); (case m => exact meta_Exception); (case e => k_dflt k_is); (case h => k_handed)))
  k_with "compareOp IsNot" => ((k_here; k_dflt (refine isNot_none (by assumption) ?_)))
  k_with "call builtin:str.format" => ((k_here; k_dflt (refine' line_use ?k1 ?k2 ?k3 ?k4 ?k5 ?k6 ?k7 ?_; (case k1 => assumption); (case k2 => k_asm); (case k3 => k_asm); (case k4 => exact rfl); (case k5 => exact rfl); (case k6 => exact Nat.le_of_ble_eq_true rfl); (case k7 => exact Nat.le_of_ble_eq_true rfl); k_whole; intro zqhp zqup zqtkp zqFp zqNp)))
  k_with "call builtin:str.format" => ((k_here; (with_reducible show wpAny _ _ (call (Value.builtin "str.format") [Value.str _ _, _, _, _, _]) _ _ _); k_dflt (refine' fmt_use ?k1 ?k2 ?k3 ?k4 ?k5 ?_; (case k1 => k_asm); (case k2 => k_asm); (case k3 => exact ⟨rfl, rfl, Nat.le_of_ble_eq_true rfl, Nat.le_of_ble_eq_true rfl⟩); (case k4 => exact args_5 _ _ _ _ _); (case k5 => walk_at "mine fmt")); k_whole; intro zqhp zqup zqtkp zqFp zqNp))
  k_with "pyReprObj" => ((k_here; k_dflt (refine' reprObj_use ?k1 ?k2 ?k3 ?k4 ?k5 ?k6 ?k7 ?_; (case k1 => assumption); (case k2 => k_asm); (case k3 => k_asm); (case k4 => exact rfl); (case k5 => exact rfl); (case k6 => exact Nat.le_of_ble_eq_true rfl); (case k7 => exact Nat.le_of_ble_eq_true rfl); k_whole; intro zqhp zqup zqtkp zqFp zqNp)))
  k_with "call ref" => ((k_here; (with_reducible show wpAny _ _ (call (Value.ref 29) [Value.ref _, Value.str _ _]) _ _ _); k_dflt (refine' errIni ?k1 ?k2 ?k3 ?k4 ?k5 ?k6 ?k7 ?_; (case k1 => k_asm); (case k2 => k_asm); (case k3 => assumption); (case k4 => k_asm); (case k5 => k_updF); (case k6 => kernel_rfl); (case k7 => exact Nat.le_of_ble_eq_true rfl)); k_whole; intro zqdp zqtp zqhp zqtkp zqukp zqFp zqNp zql1 zql2 zql3; (try dsimp only at zqNp); (try k_lt zql1); (try k_lt zql2)))
  trivial
theorem conNS : ∀ {p : Program} {loose : List Str} {mean : ExcName → Option Value} {mg mb : Str → Option Value} (w : World) (s : Shared) (sec : Value) (rs : Str) (R0 : Rep PySem.Challenge.rw_dm0028_02.prog w s.heap sec rs)
    (Q E : Value → Shared → Prop) (KX : (hz.heap_129 w.params).In s.heap) (T : Top p loose mean mg mb s.heap)
    (hQ : ∀ h' tk e d ta od u, Grow s.heap h' → ErrNew s.heap h' 59 e d ta od (Str.ofString "No section: " ++ rs) u [("section", sec)] [sec] → Q (.ref e) { s with heap := h', toks := tk }),
    wpAny (model PySem.Challenge.rw_dm0028_02.prog w) (AD 600 2000) (call (.ref 59) [sec]) Q E s := by
  w_top off
  k_fill
  intro p loose mean mg mb w s sec rs R0 Q E KX T hQ
  obtain ⟨hh, g, dr, tk, os⟩ := s
  dsimp only at KX T R0 hQ
  have lq0 : (Str.ofString "No section: ").length ≤ 200 := Nat.le_of_ble_eq_true rfl
  have O0 := R0.old
  have sq0 := R0.short
  w_strict (
  refine wpAny_call ?_
  refine exc_make (KX 59 _ (by k_is)) (by decide +kernel) (by decide +kernel) (by decide +kernel) (looks_specialIn KX (by k_is)) (looks_instIn KX (by k_is)) (looks_findIn KX (by k_is)) (fun self => bind_fn KX self (by k_is)) (by size_fits) ?_
  k_dflt (refine' enter_new (h₀ := hh) (binds := [("self", .ref (hh.objs.size + 1)), ("section", sec)]) (news := [(hh.objs.size + 1, excObj 59 none hh.objs.size), (hh.objs.size, tupObj [sec])]) ?k1 ?k2 KX T.nolimit ?k9 ?k5 ?k6 ?k7 ?k8 ?kB ?c2 ?c3 ?c4 ?c5 ?_; (case k5 => k_is); (case k6 => k_is); (case k7 => exact Nat.le_of_ble_eq_true rfl); (case k8 => first | exact BindsTo.of_eq rfl | exact binds_K (Frag.In.keeps KX (made_grow _ _ _)) rfl (by k_is) rfl rfl rfl); (case c5 => decide); (case kB => exact locs rfl); (case c2 => exact rfl); (case c3 => exact rfl); (case c4 => exact rfl); (case k1 => exact made_grow _ _ _); (case k2 => (simp; omega)); (case k9 => exact made_news _ _ _))
  intro L' h' tk' F' N' l1; k_lt l1
  walk_at "mine texts"
  k_steps
  refine ⟨rfl, ?_⟩
  (with_reducible rename Fr _ _ _ _ => Fz)
  (with_reducible rename News _ _ _ _ => Nz)
  refine hQ _ _ _ _ _ _ _ Fz.keep (err_close Nz (by k_mem) (by k_mem) (by k_mem) (Eq.trans (lookIn_dict _ _ _) (by k_get)) ?_)
  intro q hq
  simp only [List.mem_cons, List.not_mem_nil, or_false] at hq
  rcases hq with rfl <;> kernel_rfl)
theorem conNSk : ∀ {p : Program} {loose : List Str} {mean : ExcName → Option Value} {mg mb : Str → Option Value} (w : World) (s : Shared) (sec : Value) (rs : Str) (R0 : Rep PySem.Challenge.rw_dm0028_02.prog w s.heap sec rs)
    (Q E : Value → Shared → Prop) (KX : (hz.heap_129 w.params).In s.heap) (T : Top p loose mean mg mb s.heap)
    (hQ : ∀ h' tk e d ta od u, Grow s.heap h' → ErrNew s.heap h' 59 e d ta od (Str.ofString "No section: " ++ rs) u [("section", sec)] [sec] → Q (.ref e) { s with heap := h', toks := tk }),
    wpAny (model PySem.Challenge.rw_dm0028_02.prog w) (AD 600 2000) (call (.ref 59) [] [("section", sec)]) Q E s := by
  w_top off
  k_fill
  intro p loose mean mg mb w s sec rs R0 Q E KX T hQ
  obtain ⟨hh, g, dr, tk, os⟩ := s
  dsimp only at KX T R0 hQ
  have lq0 : (Str.ofString "No section: ").length ≤ 200 := Nat.le_of_ble_eq_true rfl
  have O0 := R0.old
  have sq0 := R0.short
  w_strict (
  refine wpAny_call ?_
  refine exc_make (KX 59 _ (by k_is)) (by decide +kernel) (by decide +kernel) (by decide +kernel) (looks_specialIn KX (by k_is)) (looks_instIn KX (by k_is)) (looks_findIn KX (by k_is)) (fun self => bind_fn KX self (by k_is)) (by size_fits) ?_
  k_dflt (refine' enter_new (h₀ := hh) (binds := [("self", .ref (hh.objs.size + 1)), ("section", sec)]) (news := [(hh.objs.size + 1, excObj 59 none hh.objs.size), (hh.objs.size, tupObj [])]) ?k1 ?k2 KX T.nolimit ?k9 ?k5 ?k6 ?k7 ?k8 ?kB ?c2 ?c3 ?c4 ?c5 ?_; (case k5 => k_is); (case k6 => k_is); (case k7 => exact Nat.le_of_ble_eq_true rfl); (case k8 => first | exact BindsTo.of_eq rfl | exact binds_K (Frag.In.keeps KX (made_grow _ _ _)) rfl (by k_is) rfl rfl rfl); (case c5 => decide); (case kB => exact locs rfl); (case c2 => exact rfl); (case c3 => exact rfl); (case c4 => exact rfl); (case k1 => exact made_grow _ _ _); (case k2 => (simp; omega)); (case k9 => exact made_news _ _ _))
  intro L' h' tk' F' N' l1; k_lt l1
  walk_at "mine texts"
  k_steps
  refine ⟨rfl, ?_⟩
  (with_reducible rename Fr _ _ _ _ => Fz)
  (with_reducible rename News _ _ _ _ => Nz)
  refine hQ _ _ _ _ _ _ _ Fz.keep (err_close Nz (by k_mem) (by k_mem) (by k_mem) (Eq.trans (lookIn_dict _ _ _) (by k_get)) ?_)
  intro q hq
  simp only [List.mem_cons, List.not_mem_nil, or_false] at hq
  rcases hq with rfl <;> kernel_rfl)
end
section
theorem lay1 : True := by
  k_with_none
  k_with "ne" => (with_reducible (first | exact ns1 | exact ns2 | exact qlt (by assumption) | exact qgt (by assumption) | exact qne (by assumption) | exact qen (by assumption) | exact rlt (by assumption) | exact rgt (by assumption) | exact rne (by assumption) | exact ren (by assumption) | exact qlt (And.right (by assumption)) | exact qgt (And.right (by assumption)) | exact qne (And.right (by assumption)) | exact qen (And.right (by assumption)) | exact rlt (And.right (by assumption)) | exact rgt (And.right (by assumption)) | exact rne (And.right (by assumption)) | exact ren (And.right (by assumption)) | exact qlt (And.right (And.right (by assumption))) | exact qgt (And.right (And.right (by assumption))) | exact qne (And.right (And.right (by assumption))) | exact qen (And.right (And.right (by assumption))) | exact rlt (And.right (And.right (by assumption))) | exact rgt (And.right (And.right (by assumption))) | exact rne (And.right (And.right (by assumption))) | exact ren (And.right (And.right (by assumption))) | exact qlt (And.right (And.right (And.right (by assumption)))) | exact qgt (And.right (And.right (And.right (by assumption)))) | exact qne (And.right (And.right (And.right (by assumption)))) | exact qen (And.right (And.right (And.right (by assumption)))) | exact rlt (And.right (And.right (And.right (by assumption)))) | exact rgt (And.right (And.right (And.right (by assumption)))) | exact rne (And.right (And.right (And.right (by assumption)))) | exact ren (And.right (And.right (And.right (by assumption)))) | exact qlt (And.right (And.right (And.right (And.right (by assumption))))) | exact qgt (And.right (And.right (And.right (And.right (by assumption))))) | exact qne (And.right (And.right (And.right (And.right (by assumption))))) | exact qen (And.right (And.right (And.right (And.right (by assumption))))) | exact rlt (And.right (And.right (And.right (And.right (by assumption))))) | exact rgt (And.right (And.right (And.right (And.right (by assumption))))) | exact rne (And.right (And.right (And.right (And.right (by assumption))))) | exact ren (And.right (And.right (And.right (And.right (by assumption))))) | exact qlt (And.right (And.right (And.right (And.right (And.right (by assumption)))))) | exact qgt (And.right (And.right (And.right (And.right (And.right (by assumption)))))) | exact qne (And.right (And.right (And.right (And.right (And.right (by assumption)))))) | exact qen (And.right (And.right (And.right (And.right (And.right (by assumption)))))) | exact rlt (And.right (And.right (And.right (And.right (And.right (by assumption)))))) | exact rgt (And.right (And.right (And.right (And.right (And.right (by assumption)))))) | exact rne (And.right (And.right (And.right (And.right (And.right (by assumption)))))) | exact ren (And.right (And.right (And.right (And.right (And.right (by assumption)))))) | exact qlt (And.right (And.right (And.right (And.right (And.right (And.right (by assumption))))))) | exact qgt (And.right (And.right (And.right (And.right (And.right (And.right (by assumption))))))) | exact qne (And.right (And.right (And.right (And.right (And.right (And.right (by assumption))))))) | exact qen (And.right (And.right (And.right (And.right (And.right (And.right (by assumption))))))) | exact rlt (And.right (And.right (And.right (And.right (And.right (And.right (by assumption))))))) | exact rgt (And.right (And.right (And.right (And.right (And.right (And.right (by assumption))))))) | exact rne (And.right (And.right (And.right (And.right (And.right (And.right (by assumption))))))) | exact ren (And.right (And.right (And.right (And.right (And.right (And.right (by assumption))))))) | exact qlt (And.right (And.right (And.right (And.right (And.right (And.right (And.right (by assumption)))))))) | exact qgt (And.right (And.right (And.right (And.right (And.right (And.right (And.right (by assumption)))))))) | exact qne (And.right (And.right (And.right (And.right (And.right (And.right (And.right (by assumption)))))))) | exact qen (And.right (And.right (And.right (And.right (And.right (And.right (And.right (by assumption)))))))) | exact rlt (And.right (And.right (And.right (And.right (And.right (And.right (And.right (by assumption)))))))) | exact rgt (And.right (And.right (And.right (And.right (And.right (And.right (And.right (by assumption)))))))) | exact rne (And.right (And.right (And.right (And.right (And.right (And.right (And.right (by assumption)))))))) | exact ren (And.right (And.right (And.right (And.right (And.right (And.right (And.right (by assumption)))))))) | exact qlt (And.right (And.right (And.right (And.right (And.right (And.right (And.right (And.right (by assumption))))))))) | exact qgt (And.right (And.right (And.right (And.right (And.right (And.right (And.right (And.right (by assumption))))))))) | exact qne (And.right (And.right (And.right (And.right (And.right (And.right (And.right (And.right (by assumption))))))))) | exact qen (And.right (And.right (And.right (And.right (And.right (And.right (And.right (And.right (by assumption))))))))) | exact rlt (And.right (And.right (And.right (And.right (And.right (And.right (And.right (And.right (by assumption))))))))) | exact rgt (And.right (And.right (And.right (And.right (And.right (And.right (And.right (And.right (by assumption))))))))) | exact rne (And.right (And.right (And.right (And.right (And.right (And.right (And.right (And.right (by assumption))))))))) | exact ren (And.right (And.right (And.right (And.right (And.right (And.right (And.right (And.right (by assumption))))))))) | exact qlt (And.right (And.right (And.right (And.right (And.right (And.right (And.right (And.right (And.right (by assumption)))))))))) | exact qgt (And.right (And.right (And.right (And.right (And.right (And.right (And.right (And.right (And.right (by assumption)))))))))) | exact qne (And.right (And.right (And.right (And.right (And.right (And.right (And.right (And.right (And.right (by assumption)))))))))) | exact qen (And.right (And.right (And.right (And.right (And.right (And.right (And.right (And.right (And.right (by assumption)))))))))) | exact rlt (And.right (And.right (And.right (And.right (And.right (And.right (And.right (And.right (And.right (by assumption)))))))))) | exact rgt (And.right (And.right (And.right (And.right (And.right (And.right (And.right (And.right (And.right (by assumption)))))))))) | exact rne (And.right (And.right (And.right (And.right (And.right (And.right (And.right (And.right (And.right (by assumption)))))))))) | exact ren (And.right (And.right (And.right (And.right (And.right (And.right (And.right (And.right (And.right (by assumption)))))))))) | exact qlt (And.right (And.right (And.right (And.right (And.right (And.right (And.right (And.right (And.right (And.right (by assumption))))))))))) | exact qgt (And.right (And.right (And.right (And.right (And.right (And.right (And.right (And.right (And.right (And.right (by assumption))))))))))) | exact qne (And.right (And.right (And.right (And.right (And.right (And.right (And.right (And.right (And.right (And.right (by assumption))))))))))) | exact qen (And.right (And.right (And.right (And.right (And.right (And.right (And.right (And.right (And.right (And.right (by assumption))))))))))) | exact rlt (And.right (And.right (And.right (And.right (And.right (And.right (And.right (And.right (And.right (And.right (by assumption))))))))))) | exact rgt (And.right (And.right (And.right (And.right (And.right (And.right (And.right (And.right (And.right (And.right (by assumption))))))))))) | exact rne (And.right (And.right (And.right (And.right (And.right (And.right (And.right (And.right (And.right (And.right (by assumption))))))))))) | exact ren (And.right (And.right (And.right (And.right (And.right (And.right (And.right (And.right (And.right (And.right (by assumption))))))))))) | exact qlt (And.right (And.right (And.right (And.right (And.right (And.right (And.right (And.right (And.right (And.right (And.right (by assumption)))))))))))) | exact qgt (And.right (And.right (And.right (And.right (And.right (And.right (And.right (And.right (And.right (And.right (And.right (by assumption)))))))))))) | exact qne (And.right (And.right (And.right (And.right (And.right (And.right (And.right (And.right (And.right (And.right (And.right (by assumption)))))))))))) | exact qen (And.right (And.right (And.right (And.right (And.right (And.right (And.right (And.right (And.right (And.right (And.right (by assumption)))))))))))) | exact rlt (And.right (And.right (And.right (And.right (And.right (And.right (And.right (And.right (And.right (And.right (And.right (by assumption)))))))))))) | exact rgt (And.right (And.right (And.right (And.right (And.right (And.right (And.right (And.right (And.right (And.right (And.right (by assumption)))))))))))) | exact rne (And.right (And.right (And.right (And.right (And.right (And.right (And.right (And.right (And.right (And.right (And.right (by assumption)))))))))))) | exact ren (And.right (And.right (And.right (And.right (And.right (And.right (And.right (And.right (And.right (And.right (And.right (by assumption)))))))))))) | exact qlt (And.right (And.right (And.right (And.right (And.right (And.right (And.right (And.right (And.right (And.right (And.right (And.right (by assumption))))))))))))) | exact qgt (And.right (And.right (And.right (And.right (And.right (And.right (And.right (And.right (And.right (And.right (And.right (And.right (by assumption))))))))))))) | exact qne (And.right (And.right (And.right (And.right (And.right (And.right (And.right (And.right (And.right (And.right (And.right (And.right (by assumption))))))))))))) | exact qen (And.right (And.right (And.right (And.right (And.right (And.right (And.right (And.right (And.right (And.right (And.right (And.right (by assumption))))))))))))) | exact rlt (And.right (And.right (And.right (And.right (And.right (And.right (And.right (And.right (And.right (And.right (And.right (And.right (by assumption))))))))))))) | exact rgt (And.right (And.right (And.right (And.right (And.right (And.right (And.right (And.right (And.right (And.right (And.right (And.right (by assumption))))))))))))) | exact rne (And.right (And.right (And.right (And.right (And.right (And.right (And.right (And.right (And.right (And.right (And.right (And.right (by assumption))))))))))))) | exact ren (And.right (And.right (And.right (And.right (And.right (And.right (And.right (And.right (And.right (And.right (And.right (And.right (by assumption))))))))))))) | exact qlt (And.right (And.right (And.right (And.right (And.right (And.right (And.right (And.right (And.right (And.right (And.right (And.right (And.right (by assumption)))))))))))))) | exact qgt (And.right (And.right (And.right (And.right (And.right (And.right (And.right (And.right (And.right (And.right (And.right (And.right (And.right (by assumption)))))))))))))) | exact qne (And.right (And.right (And.right (And.right (And.right (And.right (And.right (And.right (And.right (And.right (And.right (And.right (And.right (by assumption)))))))))))))) | exact qen (And.right (And.right (And.right (And.right (And.right (And.right (And.right (And.right (And.right (And.right (And.right (And.right (And.right (by assumption)))))))))))))) | exact rlt (And.right (And.right (And.right (And.right (And.right (And.right (And.right (And.right (And.right (And.right (And.right (And.right (And.right (by assumption)))))))))))))) | exact rgt (And.right (And.right (And.right (And.right (And.right (And.right (And.right (And.right (And.right (And.right (And.right (And.right (And.right (by assumption)))))))))))))) | exact rne (And.right (And.right (And.right (And.right (And.right (And.right (And.right (And.right (And.right (And.right (And.right (And.right (And.right (by assumption)))))))))))))) | exact ren (And.right (And.right (And.right (And.right (And.right (And.right (And.right (And.right (And.right (And.right (And.right (And.right (And.right (by assumption)))))))))))))) | exact qlt (And.right (And.right (And.right (And.right (And.right (And.right (And.right (And.right (And.right (And.right (And.right (And.right (And.right (And.right (by assumption))))))))))))))) | exact qgt (And.right (And.right (And.right (And.right (And.right (And.right (And.right (And.right (And.right (And.right (And.right (And.right (And.right (And.right (by assumption))))))))))))))) | exact qne (And.right (And.right (And.right (And.right (And.right (And.right (And.right (And.right (And.right (And.right (And.right (And.right (And.right (And.right (by assumption))))))))))))))) | exact qen (And.right (And.right (And.right (And.right (And.right (And.right (And.right (And.right (And.right (And.right (And.right (And.right (And.right (And.right (by assumption))))))))))))))) | exact rlt (And.right (And.right (And.right (And.right (And.right (And.right (And.right (And.right (And.right (And.right (And.right (And.right (And.right (And.right (by assumption))))))))))))))) | exact rgt (And.right (And.right (And.right (And.right (And.right (And.right (And.right (And.right (And.right (And.right (And.right (And.right (And.right (And.right (by assumption))))))))))))))) | exact rne (And.right (And.right (And.right (And.right (And.right (And.right (And.right (And.right (And.right (And.right (And.right (And.right (And.right (And.right (by assumption))))))))))))))) | exact ren (And.right (And.right (And.right (And.right (And.right (And.right (And.right (And.right (And.right (And.right (And.right (And.right (And.right (And.right (by assumption))))))))))))))) | exact qlt (And.right (And.right (And.right (And.right (And.right (And.right (And.right (And.right (And.right (And.right (And.right (And.right (And.right (And.right (And.right (by assumption)))))))))))))))) | exact qgt (And.right (And.right (And.right (And.right (And.right (And.right (And.right (And.right (And.right (And.right (And.right (And.right (And.right (And.right (And.right (by assumption)))))))))))))))) | exact qne (And.right (And.right (And.right (And.right (And.right (And.right (And.right (And.right (And.right (And.right (And.right (And.right (And.right (And.right (And.right (by assumption)))))))))))))))) | exact qen (And.right (And.right (And.right (And.right (And.right (And.right (And.right (And.right (And.right (And.right (And.right (And.right (And.right (And.right (And.right (by assumption)))))))))))))))) | exact rlt (And.right (And.right (And.right (And.right (And.right (And.right (And.right (And.right (And.right (And.right (And.right (And.right (And.right (And.right (And.right (by assumption)))))))))))))))) | exact rgt (And.right (And.right (And.right (And.right (And.right (And.right (And.right (And.right (And.right (And.right (And.right (And.right (And.right (And.right (And.right (by assumption)))))))))))))))) | exact rne (And.right (And.right (And.right (And.right (And.right (And.right (And.right (And.right (And.right (And.right (And.right (And.right (And.right (And.right (And.right (by assumption)))))))))))))))) | exact ren (And.right (And.right (And.right (And.right (And.right (And.right (And.right (And.right (And.right (And.right (And.right (And.right (And.right (And.right (And.right (by assumption))))))))))))))))))
  trivial
theorem lay2 : True := by
  k_with "mine texts" => ((try dsimp only [← sx0, ← sx1, ← sx2, ← sx3, ← sx4, ← sx5, ← sx6, ← sx7, ← sx8, ← sx9, ← sx10, ← sx11, ← sx12, ← sx13, ← sx14, ← sx15, ← sx16, ← sx17, ← sx18, ← sx19, ← sx20, ← sx21, ← sx22, ← sx23, ← sx24, ← sx25, ← sx26, ← sx27, ← sx28, ← sx29, ← sx30, ← sx31, ← sx32, ← sx33, ← sx34, ← sx35, ← sx36, ← sx37, ← sx38, ← sx39, ← sx40, ← sx41, ← sx42, ← sx43, ← sx44, ← sx45, ← sx46, ← sx47, ← sx48, ← sx49, ← sx50, ← sx51, ← sx52, ← sx53, ← sx54, ← sx55, ← sx56, ← sx57, ← sx58, ← sx59, ← sx60, ← sx61, ← sx62, ← sx63, ← sx64, ← sx65, ← sx66, ← sx67, ← sx68, ← sx69, ← sx70, ← sx71, ← sx72, ← sx73, ← sx74, ← sx75, ← sx76, ← sx77, ← sx78, ← sx79, ← sx80, ← sx81, ← sx82, ← sx83, ← sx84, ← sx85, ← sx86, ← sx87, ← sx88, ← sx89, ← sx90, ← sx91, ← sx92]))
  k_with "mine drop" => (first | (refine' Drop.head ?a; (case a => k_all)) | (refine' Drop.tail ?a ?b; (case a => k_ne); (case b => walk_at "mine drop")))
  k_with "setAttr ref" => ((k_here; k_dflt (first | (refine' exc_set0 ?k1 ?k2 ?k3 ?k4 ?k5 ?k6 ?k7 ?k8 ?k9 ?_; (case k1 => k_asm); (case k2 => k_asm); (case k3 => k_asm); (case k4 => k_mem); (case k5 => k_is); (case k6 => kernel_rfl); (case k7 => k_is); (case k8 => k_is); (case k9 => intro zqd; k_upd); k_whole; intro zqdp zqhp zqFp zqNp zql1; (try k_lt zql1)) | (refine' exc_set_args ?k1 ?k2 ?k3 ?k4 ?k5 ?k6 ?k7 ?k8 ?k9 ?k10 ?_; (case k1 => k_asm); (case k2 => k_asm); (case k3 => k_asm); (case k4 => first | (refine' InstAt.of_exc ?N ?h1 ?h2; (case N => k_asm); (case h1 => k_mem); (case h2 => k_mem)) | (refine' InstAt.of_exc0 ?N ?h1; (case N => k_asm); (case h1 => k_mem))); (case k5 => exact isTup_of (by k_asm) (by k_mem)); (case k6 => k_is); (case k7 => kernel_rfl); (case k8 => k_is); (case k9 => k_is); (case k10 => k_upd); k_whole; intro zqhp zqFp zqNp) | (refine' exc_set ?k1 ?k2 ?k3 ?k4 ?k5 ?k6 ?k7 ?k8 ?k9 ?k10 ?k11 ?k12 ?_; (case k1 => k_asm); (case k2 => k_asm); (case k3 => k_asm); (case k4 => first | (refine' InstAt.of_exc ?N ?h1 ?h2; (case N => k_asm); (case h1 => k_mem); (case h2 => k_mem)) | (refine' InstAt.of_exc0 ?N ?h1; (case N => k_asm); (case h1 => k_mem))); (case k5 => k_is); (case k6 => kernel_rfl); (case k7 => k_is); (case k8 => k_is); (case k9 => k_get); (case k10 => k_put); (case k11 => k_upd); (case k12 => exact Nat.le_of_ble_eq_true rfl); k_whole; intro zqhp zqFp zqNp))))
  k_with "call builtin:Exception.__init__" => ((k_here; k_dflt (refine' exc_init_call ?k1 ?k2 ?k3 ?k4 ?k5 ?k6 ?_; (case k1 => k_asm); (case k2 => k_asm); (case k3 => k_asm); (case k4 => first | (refine' InstAt.of_exc ?N ?h1 ?h2; (case N => k_asm); (case h1 => k_mem); (case h2 => k_mem)) | (refine' InstAt.of_exc0 ?N ?h1; (case N => k_asm); (case h1 => k_mem))); (case k5 => k_is); (case k6 => intro zqt; k_upd); k_whole; intro zqtp zqhp zqFp zqNp zql1; (try k_lt zql1))))
  k_with "call builtin:repr" => ((k_here; k_dflt (refine' repr_use ?k1 ?k2 ?k3 ?k4 ?k5 ?k6 ?k7 ?_; (case k1 => assumption); (case k2 => k_asm); (case k3 => k_asm); (case k4 => exact rfl); (case k5 => exact rfl); (case k6 => exact Nat.le_of_ble_eq_true rfl); (case k7 => exact Nat.le_of_ble_eq_true rfl); k_whole; intro zqhp zqup zqtkp zqFp zqNp)))
  k_with "BackIn" => ((k_dflt (refine' back_ ?k1 ?k2 ?k3 ?_; (case k1 => k_asm); (case k2 => k_asm); (case k3 => walk_at "mine drop"); k_whole; intro zqFp zqNp; (try dsimp only))))
  k_with "call ref" => ((k_here; k_dflt (refine wpAny_call ?_; refine' enter_in ?k1 ?k2 ?k3 ?k4 ?k5 ?k6 ?k7 ?k8 ?kB ?c2 ?c3 ?c4 ?c5 ?_; (case k1 => k_asm); (case k2 => k_asm); (case k3 => k_asm); (case k4 => exact Top.nolimit (by assumption)); (case k5 => k_is); (case k6 => k_is); (case k7 => exact Nat.le_of_ble_eq_true rfl); (case k8 => first | ((with_reducible show BindsTo _ _ ⟨[_], []⟩ _); first | exact BindsTo.of_eq (binds := [(_, _)]) rfl | exact binds_K (binds := [(_, _)]) (by k_in) rfl (by k_is) rfl rfl rfl) | ((with_reducible show BindsTo _ _ ⟨[_, _], []⟩ _); first | exact BindsTo.of_eq (binds := [(_, _), (_, _)]) rfl | exact binds_K (binds := [(_, _), (_, _)]) (by k_in) rfl (by k_is) rfl rfl rfl) | ((with_reducible show BindsTo _ _ ⟨[_, _, _], []⟩ _); first | exact BindsTo.of_eq (binds := [(_, _), (_, _), (_, _)]) rfl | exact binds_K (binds := [(_, _), (_, _), (_, _)]) (by k_in) rfl (by k_is) rfl rfl rfl) | ((with_reducible show BindsTo _ _ ⟨[_, _, _, _], []⟩ _); first | exact BindsTo.of_eq (binds := [(_, _), (_, _), (_, _), (_, _)]) rfl | exact binds_K (binds := [(_, _), (_, _), (_, _), (_, _)]) (by k_in) rfl (by k_is) rfl rfl rfl) | ((with_reducible show BindsTo _ _ ⟨[_, _, _, _, _], []⟩ _); first | exact BindsTo.of_eq (binds := [(_, _), (_, _), (_, _), (_, _), (_, _)]) rfl | exact binds_K (binds := [(_, _), (_, _), (_, _), (_, _), (_, _)]) (by k_in) rfl (by k_is) rfl rfl rfl)); (case c5 => decide); (case kB => exact locs rfl); (case c2 => exact rfl); (case c3 => exact rfl); (case c4 => exact rfl); k_whole; intro zqoLp zqLp zqhp zqtkp zqFp zqNp zql1 zqn1; (try k_lt zql1); (try (replace zqn1 := allNe_of zqn1; simp only [AllNe, and_true] at zqn1)); (try dsimp only); walk_at "mine texts")))
  k_with "call builtin:str.join" => ((k_here; (with_reducible show wpAny _ _ (call (Value.builtin "str.join") [Value.str _ _, Value.ref _]) _ _ _); k_dflt (refine join_listC (by is_list) (by repeat constructor) (by decide) (by (simp only [List.map_cons, List.map_nil, List.sum_cons, List.sum_nil, List.length_cons, List.length_nil]; omega)) ?_); intro zqtp zqkp))
  k_with "getMethod type:Exception" => ((k_here; refine' method_type ?F ?X ?m (by decide +kernel) ?e ?h ?_; (case F => k_asm); (case X => k_asm); (case m => exact meta_Exception); (case e => k_dflt k_is); (case h => k_handed)))
  k_with "compareOp IsNot" => ((k_here; k_dflt (refine isNot_none (by assumption) ?_)))
  k_with "call builtin:str.format" => ((k_here; k_dflt (refine' line_use ?k1 ?k2 ?k3 ?k4 ?k5 ?k6 ?k7 ?_; (case k1 => assumption); (case k2 => k_asm); (case k3 => k_asm); (case k4 => exact rfl); (case k5 => exact rfl); (case k6 => exact Nat.le_of_ble_eq_true rfl); (case k7 => exact Nat.le_of_ble_eq_true rfl); k_whole; intro zqhp zqup zqtkp zqFp zqNp)))
  k_with "call builtin:str.format" => ((k_here; (with_reducible show wpAny _ _ (call (Value.builtin "str.format") [Value.str _ _, _, _, _, _]) _ _ _); k_dflt (refine' fmt_use ?k1 ?k2 ?k3 ?k4 ?k5 ?_; (case k1 => k_asm); (case k2 => k_asm); (case k3 => exact ⟨rfl, rfl, Nat.le_of_ble_eq_true rfl, Nat.le_of_ble_eq_true rfl⟩); (case k4 => exact args_5 _ _ _ _ _); (case k5 => walk_at "mine fmt")); k_whole; intro zqhp zqup zqtkp zqFp zqNp))
  k_with "pyReprObj" => ((k_here; k_dflt (refine' reprObj_use ?k1 ?k2 ?k3 ?k4 ?k5 ?k6 ?k7 ?_; (case k1 => assumption); (case k2 => k_asm); (case k3 => k_asm); (case k4 => exact rfl); (case k5 => exact rfl); (case k6 => exact Nat.le_of_ble_eq_true rfl); (case k7 => exact Nat.le_of_ble_eq_true rfl); k_whole; intro zqhp zqup zqtkp zqFp zqNp)))
  k_with "getAttr ref" => ((k_here; (with_reducible rename Gets _ _ _ _ _ _ => zg); k_dflt (refine' gets_use (by assumption) ?k2 ?_; (case k2 => k_asm))))
  trivial
theorem msg02 : ∀ {p : Program} {loose : List Str} {mean : ExcName → Option Value} {mg mb : Str → Option Value} (w : World) (s : Shared) (e : Addr) (t : Str) (u0 : Tok) (G : Gets PySem.Challenge.rw_dm0028_02.prog w s.heap e (Str.ofString "message") (.str t u0))
    (Q E : Value → Shared → Prop) (KX : (hz.heap_129 w.params).In s.heap) (T : Top p loose mean mg mb s.heap)
    (hQ : ∀ h' tk (u : Tok), Grow s.heap h' → Q (.str t u) { s with heap := h', toks := tk }),
    wpAny (model PySem.Challenge.rw_dm0028_02.prog w) (AN 880 4400) (call (.ref 36) [.ref e]) Q E s := by
  w_top off
  k_fill
  intro p loose mean mg mb w s e t u0 G Q E KX T hQ
  obtain ⟨hh, g, dr, tk, os⟩ := s
  dsimp only at KX T G hQ
  w_strict (
  refine wpAny_call ?_
  k_dflt (refine' enter_new (h₀ := hh) (binds := [("self", .ref e)]) (news := []) ?k1 ?k2 KX T.nolimit ?k9 ?k5 ?k6 ?k7 ?k8 ?kB ?c2 ?c3 ?c4 ?c5 ?_; (case k5 => k_is); (case k6 => k_is); (case k7 => exact Nat.le_of_ble_eq_true rfl); (case k8 => first | exact BindsTo.of_eq rfl | exact binds_K KX rfl (by k_is) rfl rfl rfl); (case c5 => decide); (case kB => exact locs rfl); (case c2 => exact rfl); (case c3 => exact rfl); (case c4 => exact rfl); (case k1 => exact fun _ _ e => e); (case k2 => exact Nat.le_refl _); (case k9 => exact List.forall_mem_nil _))
  intro L' h' tk' F' N' l1
  walk_at "mine texts"
  k_steps
  dsimp only
  exact hQ _ _ _ F'.keep)
end
section
open PySem PySem.W PySem.Spec PySem.Calls PyProof.Rows PySem.SeqAt
set_option Elab.async false
set_option maxRecDepth 100000
set_option maxHeartbeats 4000000
set_option linter.unusedVariables false
section
variable {p : Program} {loose : List Str} {mean : ExcName → Option Value} {mg mb : Str → Option Value}
variable {w : World} {A : Around} {E : Value → Shared → Prop} {s : Shared} {h₀ : Heap} {L : Addr} {m : Str → Option Value} {news : List (Addr × Obj)} {Q : Value → Shared → Prop} {value slice : PySem.Expr}
theorem gets_2 {expr : Bool} {C e d ta f : Addr} {od : Obj} {name : Str} {v : Value} {K : Frag} (F : Fr h₀ L s.heap m) (X₀ : K.In h₀) (N : News h₀ L s.heap news) (h1 : (e, excObj C (some d) ta) ∈ news) (h2 : (d, od) ∈ news) (c : clsB K C f = true) (n : nameB K C name = true) (hl : lookIn name od = some (some v)) (hv : handedIn v = true)
    (q : Q v { s with toks := s.toks + 1 }) : wpAny (model P02 w) A (getAttr (.ref e) name expr) Q E s := gets_field (X₀.keeps F.keep) (N _ h1).1 (N _ h2).1 c n hl hv A s Q E expr (Grow.refl _) q
theorem args_2 {expr : Bool} {C e d ta f : Addr} {od : Obj} {K : Frag} (F : Fr h₀ L s.heap m) (X₀ : K.In h₀) (N : News h₀ L s.heap news) (h1 : (e, excObj C (some d) ta) ∈ news) (h2 : (d, od) ∈ news) (c : clsB K C f = true)
    (q : Q (.ref ta) { s with toks := s.toks + 1 }) : wpAny (model P02 w) A (getAttr (.ref e) (Str.ofString "args") expr) Q E s := gets_args (X₀.keeps F.keep) (N _ h1).1 (N _ h2).1 c A s Q E expr (Grow.refl _) q
theorem tells_2 {C e d ta : Addr} {od : Obj} {t : Str} {u : Tok} (X : (KP2 w).In s.heap) (T : Top p loose mean mg mb s.heap) (he : s.heap.get? e = some (excObj C (some d) ta)) (hd : s.heap.get? d = some od) (c : clsB (KP2 w) C 36 = true) (n : nameB (KP2 w) C (Str.ofString "message") = true) (hm : lookIn (Str.ofString "message") od = some (some (.str t u))) :
    Tells P02 w s.heap 36 e t := fun A s' Q E a1 a3 a4 g q => weakenN a1 a3 a4 (msg02 w s' e t u ((gets_field X he hd c n hm rfl).grow g) Q E (X.keeps g) (T.keeps g) fun h' tk u g' => q h' u tk g')
theorem str_2 {C e d ta : Addr} {od : Obj} {t : Str} {u : Tok} (F : Fr h₀ L s.heap m) (X₀ : (KP2 w).In h₀) (T : Top p loose mean mg mb h₀) (N : News h₀ L s.heap news) (h1 : (e, excObj C (some d) ta) ∈ news) (h2 : (d, od) ∈ news) (c : clsB (KP2 w) C 36 = true) (n : nameB (KP2 w) C (Str.ofString "message") = true) (hm : lookIn (Str.ofString "message") od = some (some (.str t u)))
    (a1 : A.handled = none) (a3 : A.depth ≤ 850) (a4 : A.units ≤ 4200) (q : ∀ h' u tk, Fr h₀ L h' m → News h₀ L h' news → Q (.str t u) { s with heap := h', toks := tk }) : wpAny (model P02 w) A (call (.type "str") [.ref e]) Q E s :=
  strOk_of (X₀.keeps F.keep) (N _ h1).1 (N _ h2).1 c (tells_2 (X₀.keeps F.keep) (T.keeps F.keep) (N _ h1).1 (N _ h2).1 c n hm) A s Q E a1 a3 a4 (Grow.refl _) fun h' u tk g => q h' u tk (fr_grow F g) (news_grow N g)
theorem repr_2 {C e d ta : Addr} {od : Obj} {t : Str} {u : Tok} (F : Fr h₀ L s.heap m) (X₀ : (KP2 w).In h₀) (T : Top p loose mean mg mb h₀) (N : News h₀ L s.heap news) (h1 : (e, excObj C (some d) ta) ∈ news) (h2 : (d, od) ∈ news) (c : clsB (KP2 w) C 36 = true) (n : nameB (KP2 w) C (Str.ofString "message") = true) (hm : lookIn (Str.ofString "message") od = some (some (.str t u))) (hl : t.length ≤ 1000000)
    (a1 : A.handled = none) (a2 : A.guards = some []) (a3 : A.depth ≤ 800) (a4 : A.units ≤ 4000) (q : ∀ h' u tk, Fr h₀ L h' m → News h₀ L h' news → Q (.str t u) { s with heap := h', toks := tk }) : wpAny (model P02 w) A (call (.builtin "repr") [.ref e]) Q E s :=
  (repErr_of (X₀.keeps F.keep) (N _ h1).1 (N _ h2).1 c (tells_2 (X₀.keeps F.keep) (T.keeps F.keep) (N _ h1).1 (N _ h2).1 c n hm) hl).call A s Q E a1 a2 a3 a4 (Grow.refl _) fun h' u tk g => q h' u tk (fr_grow F g) (news_grow N g)
theorem mul3_2 {prog : Program} {l : Addr} {v : Value} {n : Nat} {u : Tok} (F : Fr h₀ L s.heap m) (N : News h₀ L s.heap news) (hm : (l, listOf #[v] n) ∈ news) (h : ∀ D h', Fr h₀ L h' m → News h₀ L h' ((D, listOf #[v, v, v] 0) :: news) → Q (.ref D) { s with heap := h' }) :
    wpAny (model prog w) A (binaryOp .Mult (.ref l) (.int 3 u)) Q E s :=
  mul_list F N (N _ hm).1 (by decide) (by decide) (by show 1 * 3 ≤ 2 ^ 24; decide) fun h' F' N' => h _ h' F' N'
theorem txt3_2 {prog : Program} {x : Str} {a b : Addr} {t1 t2 t3 u1 u2 u3 : Tok} {n1 n2 : Nat} (N : News h₀ L s.heap news) (m1 : (a, listOf #[.str x t1, .str x t2, .str x t3] n1) ∈ news) (m2 : (b, listOf #[.str x u1, .str x u2, .str x u3] n2) ∈ news) (hu : A.units + 64 < cLine) (q : Q (.bool false) s) :
    wpAny (model prog w) A (compareOp .NotEq (.ref a) (.ref b)) Q E s := by
  have es : ∀ t u, EqAt A.in1 s (.str x t) (.str x u) true := fun t u => by simpa using EqAt.str_str (A := A.in1) (s := s) x t x u
  have := RcNeAt.lists (A := A) (e := fun _ => true) (News.isList N m1) (News.isList N m2) rfl (by omega) fun j h1 h2 => by
    rcases (by simp at h1; omega : j = 0 ∨ j = 1 ∨ j = 2) with rfl | rfl | rfl <;> exact es _ _
  exact this prog w E Q q
/-- _law_written writes a value of the ledger -/
theorem wr_2 {v : Value} {d : PyData} (F : Fr h₀ L s.heap m) (X₀ : (KP2 w).In h₀) (T : Top p loose mean mg mb h₀) (N : News h₀ L s.heap news) (r : RL w news v d) (hd : d.depth ≤ 42) (hl : d.shown.length ≤ 4000)
    (a1 : A.handled = none) (a2 : A.guards = some []) (a3 : A.depth ≤ 500) (a4 : A.units ≤ 1500) (q : ∀ h' u tk, Fr h₀ L h' m → News h₀ L h' news → Q (.str d.shown u) { s with heap := h', toks := tk }) : wpAny (model P02 w) A (call (.ref 87) [v]) Q E s :=
  writ02 42 (r.at N) hd (by decide) hl (X₀.keeps F.keep) (T.keeps F.keep) A s Q E a1 a2 (Nat.le_trans a3 (by decide)) (Nat.le_trans a4 (by decide)) (Grow.refl _) fun h' u tk g => q h' u tk (fr_grow F g) (news_grow N g)
theorem slice_last {l : Addr} {vs : List Value} {n : Nat} {u : Tok} (F : Fr h₀ L s.heap m) (N : News h₀ L s.heap news) (hm : (l, listOf vs.toArray n) ∈ news) (hl : vs.length ≤ 1000)
    (h : ∀ D h', Fr h₀ L h' m → News h₀ L h' ((D, listOf (vs.drop (vs.length - 3)).toArray 0) :: news) → (∀ p ∈ news, p.1 < D) → Q (.ref D) { s with heap := h' })
    (hs : subscripted slice false (.ref l) (.ref s.heap.objs.size) = operate [.ref s.heap.objs.size, .ref l] (getItem (.ref l) (.ref s.heap.objs.size)) := by with_unfolding_all rfl) (ht : ∀ r, letTemporaryGo value (.ref l) r = pure () := by intro _; with_unfolding_all rfl) :
    wpAny (model P02 w) A (subscriptTail value slice (.ref l) (.ref s.heap.objs.size)) Q E { s with heap := s.heap.push { cls := .type "slice", data := .fields #[.int (-3) u, .none, .none] } } :=
  kmk_slice_lit F N (News.isList N hm) (IsPart.int _ _) .none (pick_last vs) h hs ht (by rw [sizeLine_eq, List.size_toArray]; omega)
/-- what _law_stack hands back -/
theorem stack_2 {la : Addr} {vs : List Value} {ns : List Int} (F : Fr h₀ L s.heap m) (X₀ : (KP2 w).In h₀) (T : Top p loose mean mg mb h₀) (N : News h₀ L s.heap news) (hl : s.heap.IsList la vs.toArray) (hi : IntsAre vs ns) (hlen : ns.length ≤ 40)
    (a1 : A.handled = none) (a2 : A.guards = some []) (a3 : A.depth ≤ 400) (a4 : A.units ≤ 1000)
    (q : ∀ h' tk sa us ds cn rest, Fr h₀ L h' m → News h₀ L h' ((sa, listOf us.toArray cn) :: (rest ++ news)) → Stk w rest us ds 40 → Q (.ref sa) { s with heap := h', toks := tk }) : wpAny (model P02 w) A (call (.ref 92) [.ref la]) Q E s := by
  refine weaken a1 a2 a3 a4 (stack02 w s la vs ns hl hi hlen Q E (X₀.keeps F.keep) (T.keeps F.keep) fun h' tk sa us ds cn rest g c => ?_)
  have hL : ∀ a, s.heap.get? a = none → a ≠ L ∧ h₀.get? a = none := fun a ha => by
    refine ⟨fun z => ?_, ?_⟩
    · obtain ⟨o, _, _, ho, _⟩ := F.ns
      rw [z, ho] at ha; cases ha
    · cases q : h₀.get? a with
      | none => rfl
      | some o => have := F.keep _ _ q; rw [ha] at this; cases this
  refine q h' tk sa us ds cn rest (fr_grow F g) (fun p hp => ?_) c.ok
  rcases List.mem_cons.mp hp with rfl | hp
  · exact ⟨c.hs, hL _ c.ns⟩
  · rcases List.mem_append.mp hp with hp | hp
    · exact ⟨(c.hr p hp).1, hL _ (c.hr p hp).2⟩
    · exact news_grow N g p hp
theorem ne_str_2 {prog : Program} {i : Str} {t u : Tok} (q : Q (.bool false) s) : wpAny (model prog w) A (compareOp .NotEq (.str i t) (.str i u)) Q E s := by
  have := RcNeAt.str_str (A := A) (s := s) i t i u
  rw [show (!(i == i)) = false by simp] at this
  exact this prog w E Q q
end
end
section
open PySem PySem.W PySem.Spec PySem.Calls PyProof.Rows PySem.SeqAt
set_option Elab.async false
set_option maxRecDepth 100000
set_option maxHeartbeats 4000000
set_option linter.unusedVariables false
theorem shown_le_wsum : ∀ {ds : List PyData} {d : PyData}, d ∈ ds → d.shown.length ≤ wsum ds
  | [], _, h => nomatch h
  | x :: xs, d, h => by
    have e : wsum (x :: xs) = x.shown.length + 2 + wsum xs := by simp [wsum]
    rcases List.mem_cons.mp h with rfl | h
    · omega
    · have := shown_le_wsum h; omega
theorem depthAll_le {n : Nat} : ∀ {l : List PyData}, (∀ e ∈ l, e.depth ≤ n) → PyData.depthAll l ≤ n
  | [], _ => by simp [PyData.depthAll]
  | e :: l, h => by
    simp only [PyData.depthAll]
    exact Nat.max_le.mpr ⟨h e (.head _), depthAll_le fun x hx => h x (.tail _ hx)⟩
/-- the values that the law's loop takes in turn -/
theorem vals_2 {w : World} {us : List Value} {ds : List PyData} {rest led : List (Addr × Obj)} {ta : Addr} {k : Nat} (hS : Stk w rest us ds 40) (sub : ∀ p ∈ rest, p ∈ led) (ht : (ta, tupObj us) ∈ led) :
    ∀ v ∈ us.drop k ++ [.ref ta], ∃ d, RL w led v d ∧ d.depth ≤ 41 ∧ d.shown.length ≤ 1300 := by
  intro v hv
  have hwt := hS.wt
  rcases List.mem_append.mp hv with hv | hv
  · obtain ⟨j, hj⟩ := List.getElem?_of_mem (List.mem_of_mem_drop hv)
    have hjl : j < us.length := (List.getElem?_eq_some_iff.mp hj).1
    have hd : ds[j]? = some (ds[j]'(hS.len ▸ hjl)) := List.getElem?_eq_getElem _
    have hm := List.mem_of_getElem? hd
    exact ⟨_, (hS.ok j v _ hj hd).sub sub, Nat.le_trans (hS.dp _ hm) (by decide), Nat.le_trans (shown_le_wsum hm) (by omega)⟩
  · rw [List.mem_singleton.mp hv]
    refine ⟨.tuple ds, rl_tup ht hS.len (by have := hS.cnt; omega) fun j v d a b => (hS.ok j v d a b).sub sub, ?_, Nat.le_trans (tup_shown ds) (by omega)⟩
    have := depthAll_le hS.dp
    simp only [PyData.depth]
    omega
theorem V2.handed {w : World} {h : Heap} {v : Value} {d : PyData} (x : V2 w h v d) : handedIn v = true := by
  cases x <;> rfl
theorem one_2 {w : World} {led : List (Addr × Obj)} {ta : Addr} {v : Value} {d : PyData} (ht : (ta, tupObj [v]) ∈ led) (r : RL w led v d) : RL w led (.ref ta) (.tuple [d]) :=
  rl_tup ht rfl (by simp) fun j u e a b => by
    rcases j with _ | j
    · cases a; cases b; exact r
    · simp at a
theorem one_depth {d : PyData} {n : Nat} (h : d.depth ≤ n) : (PyData.tuple [d]).depth ≤ n + 1 := by
  simp only [PyData.depth, PyData.depthAll]; omega
theorem one_shown (d : PyData) : (PyData.tuple [d]).shown = Str.ofString "(" ++ d.shown ++ Str.ofString ",)" := by
  simp only [PyData.shown, PyData.shownAll]
  rfl
end
section
theorem layR021 : True := by
  k_with_none
  k_with "ne" => (with_reducible (first | exact ns1 | exact ns2 | exact qlt (by assumption) | exact qgt (by assumption) | exact qne (by assumption) | exact qen (by assumption) | exact rlt (by assumption) | exact rgt (by assumption) | exact rne (by assumption) | exact ren (by assumption) | exact qlt (And.right (by assumption)) | exact qgt (And.right (by assumption)) | exact qne (And.right (by assumption)) | exact qen (And.right (by assumption)) | exact rlt (And.right (by assumption)) | exact rgt (And.right (by assumption)) | exact rne (And.right (by assumption)) | exact ren (And.right (by assumption)) | exact qlt (And.right (And.right (by assumption))) | exact qgt (And.right (And.right (by assumption))) | exact qne (And.right (And.right (by assumption))) | exact qen (And.right (And.right (by assumption))) | exact rlt (And.right (And.right (by assumption))) | exact rgt (And.right (And.right (by assumption))) | exact rne (And.right (And.right (by assumption))) | exact ren (And.right (And.right (by assumption))) | exact qlt (And.right (And.right (And.right (by assumption)))) | exact qgt (And.right (And.right (And.right (by assumption)))) | exact qne (And.right (And.right (And.right (by assumption)))) | exact qen (And.right (And.right (And.right (by assumption)))) | exact rlt (And.right (And.right (And.right (by assumption)))) | exact rgt (And.right (And.right (And.right (by assumption)))) | exact rne (And.right (And.right (And.right (by assumption)))) | exact ren (And.right (And.right (And.right (by assumption)))) | exact qlt (And.right (And.right (And.right (And.right (by assumption))))) | exact qgt (And.right (And.right (And.right (And.right (by assumption))))) | exact qne (And.right (And.right (And.right (And.right (by assumption))))) | exact qen (And.right (And.right (And.right (And.right (by assumption))))) | exact rlt (And.right (And.right (And.right (And.right (by assumption))))) | exact rgt (And.right (And.right (And.right (And.right (by assumption))))) | exact rne (And.right (And.right (And.right (And.right (by assumption))))) | exact ren (And.right (And.right (And.right (And.right (by assumption))))) | exact qlt (And.right (And.right (And.right (And.right (And.right (by assumption)))))) | exact qgt (And.right (And.right (And.right (And.right (And.right (by assumption)))))) | exact qne (And.right (And.right (And.right (And.right (And.right (by assumption)))))) | exact qen (And.right (And.right (And.right (And.right (And.right (by assumption)))))) | exact rlt (And.right (And.right (And.right (And.right (And.right (by assumption)))))) | exact rgt (And.right (And.right (And.right (And.right (And.right (by assumption)))))) | exact rne (And.right (And.right (And.right (And.right (And.right (by assumption)))))) | exact ren (And.right (And.right (And.right (And.right (And.right (by assumption)))))) | exact qlt (And.right (And.right (And.right (And.right (And.right (And.right (by assumption))))))) | exact qgt (And.right (And.right (And.right (And.right (And.right (And.right (by assumption))))))) | exact qne (And.right (And.right (And.right (And.right (And.right (And.right (by assumption))))))) | exact qen (And.right (And.right (And.right (And.right (And.right (And.right (by assumption))))))) | exact rlt (And.right (And.right (And.right (And.right (And.right (And.right (by assumption))))))) | exact rgt (And.right (And.right (And.right (And.right (And.right (And.right (by assumption))))))) | exact rne (And.right (And.right (And.right (And.right (And.right (And.right (by assumption))))))) | exact ren (And.right (And.right (And.right (And.right (And.right (And.right (by assumption))))))) | exact qlt (And.right (And.right (And.right (And.right (And.right (And.right (And.right (by assumption)))))))) | exact qgt (And.right (And.right (And.right (And.right (And.right (And.right (And.right (by assumption)))))))) | exact qne (And.right (And.right (And.right (And.right (And.right (And.right (And.right (by assumption)))))))) | exact qen (And.right (And.right (And.right (And.right (And.right (And.right (And.right (by assumption)))))))) | exact rlt (And.right (And.right (And.right (And.right (And.right (And.right (And.right (by assumption)))))))) | exact rgt (And.right (And.right (And.right (And.right (And.right (And.right (And.right (by assumption)))))))) | exact rne (And.right (And.right (And.right (And.right (And.right (And.right (And.right (by assumption)))))))) | exact ren (And.right (And.right (And.right (And.right (And.right (And.right (And.right (by assumption)))))))) | exact qlt (And.right (And.right (And.right (And.right (And.right (And.right (And.right (And.right (by assumption))))))))) | exact qgt (And.right (And.right (And.right (And.right (And.right (And.right (And.right (And.right (by assumption))))))))) | exact qne (And.right (And.right (And.right (And.right (And.right (And.right (And.right (And.right (by assumption))))))))) | exact qen (And.right (And.right (And.right (And.right (And.right (And.right (And.right (And.right (by assumption))))))))) | exact rlt (And.right (And.right (And.right (And.right (And.right (And.right (And.right (And.right (by assumption))))))))) | exact rgt (And.right (And.right (And.right (And.right (And.right (And.right (And.right (And.right (by assumption))))))))) | exact rne (And.right (And.right (And.right (And.right (And.right (And.right (And.right (And.right (by assumption))))))))) | exact ren (And.right (And.right (And.right (And.right (And.right (And.right (And.right (And.right (by assumption))))))))) | exact qlt (And.right (And.right (And.right (And.right (And.right (And.right (And.right (And.right (And.right (by assumption)))))))))) | exact qgt (And.right (And.right (And.right (And.right (And.right (And.right (And.right (And.right (And.right (by assumption)))))))))) | exact qne (And.right (And.right (And.right (And.right (And.right (And.right (And.right (And.right (And.right (by assumption)))))))))) | exact qen (And.right (And.right (And.right (And.right (And.right (And.right (And.right (And.right (And.right (by assumption)))))))))) | exact rlt (And.right (And.right (And.right (And.right (And.right (And.right (And.right (And.right (And.right (by assumption)))))))))) | exact rgt (And.right (And.right (And.right (And.right (And.right (And.right (And.right (And.right (And.right (by assumption)))))))))) | exact rne (And.right (And.right (And.right (And.right (And.right (And.right (And.right (And.right (And.right (by assumption)))))))))) | exact ren (And.right (And.right (And.right (And.right (And.right (And.right (And.right (And.right (And.right (by assumption)))))))))) | exact qlt (And.right (And.right (And.right (And.right (And.right (And.right (And.right (And.right (And.right (And.right (by assumption))))))))))) | exact qgt (And.right (And.right (And.right (And.right (And.right (And.right (And.right (And.right (And.right (And.right (by assumption))))))))))) | exact qne (And.right (And.right (And.right (And.right (And.right (And.right (And.right (And.right (And.right (And.right (by assumption))))))))))) | exact qen (And.right (And.right (And.right (And.right (And.right (And.right (And.right (And.right (And.right (And.right (by assumption))))))))))) | exact rlt (And.right (And.right (And.right (And.right (And.right (And.right (And.right (And.right (And.right (And.right (by assumption))))))))))) | exact rgt (And.right (And.right (And.right (And.right (And.right (And.right (And.right (And.right (And.right (And.right (by assumption))))))))))) | exact rne (And.right (And.right (And.right (And.right (And.right (And.right (And.right (And.right (And.right (And.right (by assumption))))))))))) | exact ren (And.right (And.right (And.right (And.right (And.right (And.right (And.right (And.right (And.right (And.right (by assumption))))))))))) | exact qlt (And.right (And.right (And.right (And.right (And.right (And.right (And.right (And.right (And.right (And.right (And.right (by assumption)))))))))))) | exact qgt (And.right (And.right (And.right (And.right (And.right (And.right (And.right (And.right (And.right (And.right (And.right (by assumption)))))))))))) | exact qne (And.right (And.right (And.right (And.right (And.right (And.right (And.right (And.right (And.right (And.right (And.right (by assumption)))))))))))) | exact qen (And.right (And.right (And.right (And.right (And.right (And.right (And.right (And.right (And.right (And.right (And.right (by assumption)))))))))))) | exact rlt (And.right (And.right (And.right (And.right (And.right (And.right (And.right (And.right (And.right (And.right (And.right (by assumption)))))))))))) | exact rgt (And.right (And.right (And.right (And.right (And.right (And.right (And.right (And.right (And.right (And.right (And.right (by assumption)))))))))))) | exact rne (And.right (And.right (And.right (And.right (And.right (And.right (And.right (And.right (And.right (And.right (And.right (by assumption)))))))))))) | exact ren (And.right (And.right (And.right (And.right (And.right (And.right (And.right (And.right (And.right (And.right (And.right (by assumption)))))))))))) | exact qlt (And.right (And.right (And.right (And.right (And.right (And.right (And.right (And.right (And.right (And.right (And.right (And.right (by assumption))))))))))))) | exact qgt (And.right (And.right (And.right (And.right (And.right (And.right (And.right (And.right (And.right (And.right (And.right (And.right (by assumption))))))))))))) | exact qne (And.right (And.right (And.right (And.right (And.right (And.right (And.right (And.right (And.right (And.right (And.right (And.right (by assumption))))))))))))) | exact qen (And.right (And.right (And.right (And.right (And.right (And.right (And.right (And.right (And.right (And.right (And.right (And.right (by assumption))))))))))))) | exact rlt (And.right (And.right (And.right (And.right (And.right (And.right (And.right (And.right (And.right (And.right (And.right (And.right (by assumption))))))))))))) | exact rgt (And.right (And.right (And.right (And.right (And.right (And.right (And.right (And.right (And.right (And.right (And.right (And.right (by assumption))))))))))))) | exact rne (And.right (And.right (And.right (And.right (And.right (And.right (And.right (And.right (And.right (And.right (And.right (And.right (by assumption))))))))))))) | exact ren (And.right (And.right (And.right (And.right (And.right (And.right (And.right (And.right (And.right (And.right (And.right (And.right (by assumption))))))))))))) | exact qlt (And.right (And.right (And.right (And.right (And.right (And.right (And.right (And.right (And.right (And.right (And.right (And.right (And.right (by assumption)))))))))))))) | exact qgt (And.right (And.right (And.right (And.right (And.right (And.right (And.right (And.right (And.right (And.right (And.right (And.right (And.right (by assumption)))))))))))))) | exact qne (And.right (And.right (And.right (And.right (And.right (And.right (And.right (And.right (And.right (And.right (And.right (And.right (And.right (by assumption)))))))))))))) | exact qen (And.right (And.right (And.right (And.right (And.right (And.right (And.right (And.right (And.right (And.right (And.right (And.right (And.right (by assumption)))))))))))))) | exact rlt (And.right (And.right (And.right (And.right (And.right (And.right (And.right (And.right (And.right (And.right (And.right (And.right (And.right (by assumption)))))))))))))) | exact rgt (And.right (And.right (And.right (And.right (And.right (And.right (And.right (And.right (And.right (And.right (And.right (And.right (And.right (by assumption)))))))))))))) | exact rne (And.right (And.right (And.right (And.right (And.right (And.right (And.right (And.right (And.right (And.right (And.right (And.right (And.right (by assumption)))))))))))))) | exact ren (And.right (And.right (And.right (And.right (And.right (And.right (And.right (And.right (And.right (And.right (And.right (And.right (And.right (by assumption)))))))))))))) | exact qlt (And.right (And.right (And.right (And.right (And.right (And.right (And.right (And.right (And.right (And.right (And.right (And.right (And.right (And.right (by assumption))))))))))))))) | exact qgt (And.right (And.right (And.right (And.right (And.right (And.right (And.right (And.right (And.right (And.right (And.right (And.right (And.right (And.right (by assumption))))))))))))))) | exact qne (And.right (And.right (And.right (And.right (And.right (And.right (And.right (And.right (And.right (And.right (And.right (And.right (And.right (And.right (by assumption))))))))))))))) | exact qen (And.right (And.right (And.right (And.right (And.right (And.right (And.right (And.right (And.right (And.right (And.right (And.right (And.right (And.right (by assumption))))))))))))))) | exact rlt (And.right (And.right (And.right (And.right (And.right (And.right (And.right (And.right (And.right (And.right (And.right (And.right (And.right (And.right (by assumption))))))))))))))) | exact rgt (And.right (And.right (And.right (And.right (And.right (And.right (And.right (And.right (And.right (And.right (And.right (And.right (And.right (And.right (by assumption))))))))))))))) | exact rne (And.right (And.right (And.right (And.right (And.right (And.right (And.right (And.right (And.right (And.right (And.right (And.right (And.right (And.right (by assumption))))))))))))))) | exact ren (And.right (And.right (And.right (And.right (And.right (And.right (And.right (And.right (And.right (And.right (And.right (And.right (And.right (And.right (by assumption))))))))))))))) | exact qlt (And.right (And.right (And.right (And.right (And.right (And.right (And.right (And.right (And.right (And.right (And.right (And.right (And.right (And.right (And.right (by assumption)))))))))))))))) | exact qgt (And.right (And.right (And.right (And.right (And.right (And.right (And.right (And.right (And.right (And.right (And.right (And.right (And.right (And.right (And.right (by assumption)))))))))))))))) | exact qne (And.right (And.right (And.right (And.right (And.right (And.right (And.right (And.right (And.right (And.right (And.right (And.right (And.right (And.right (And.right (by assumption)))))))))))))))) | exact qen (And.right (And.right (And.right (And.right (And.right (And.right (And.right (And.right (And.right (And.right (And.right (And.right (And.right (And.right (And.right (by assumption)))))))))))))))) | exact rlt (And.right (And.right (And.right (And.right (And.right (And.right (And.right (And.right (And.right (And.right (And.right (And.right (And.right (And.right (And.right (by assumption)))))))))))))))) | exact rgt (And.right (And.right (And.right (And.right (And.right (And.right (And.right (And.right (And.right (And.right (And.right (And.right (And.right (And.right (And.right (by assumption)))))))))))))))) | exact rne (And.right (And.right (And.right (And.right (And.right (And.right (And.right (And.right (And.right (And.right (And.right (And.right (And.right (And.right (And.right (by assumption)))))))))))))))) | exact ren (And.right (And.right (And.right (And.right (And.right (And.right (And.right (And.right (And.right (And.right (And.right (And.right (And.right (And.right (And.right (by assumption))))))))))))))))))
  trivial
theorem layR022 : True := by
  k_with "mine texts" => ((try dsimp only [← sx0, ← sx1, ← sx2, ← sx3, ← sx4, ← sx5, ← sx6, ← sx7, ← sx8, ← sx9, ← sx10, ← sx11, ← sx12, ← sx13, ← sx14, ← sx15, ← sx16, ← sx17, ← sx18, ← sx19, ← sx20, ← sx21, ← sx22, ← sx23, ← sx24, ← sx25, ← sx26, ← sx27, ← sx28, ← sx29, ← sx30, ← sx31, ← sx32, ← sx33, ← sx34, ← sx35, ← sx36, ← sx37, ← sx38, ← sx39, ← sx40, ← sx41, ← sx42, ← sx43, ← sx44, ← sx45, ← sx46, ← sx47, ← sx48, ← sx49, ← sx50, ← sx51, ← sx52, ← sx53, ← sx54, ← sx55, ← sx56, ← sx57, ← sx58, ← sx59, ← sx60, ← sx61, ← sx62, ← sx63, ← sx64, ← sx65, ← sx66, ← sx67, ← sx68, ← sx69, ← sx70, ← sx71, ← sx72, ← sx73, ← sx74, ← sx75, ← sx76, ← sx77, ← sx78, ← sx79, ← sx80, ← sx81, ← sx82, ← sx83, ← sx84, ← sx85, ← sx86, ← sx87, ← sx88, ← sx89, ← sx90, ← sx91, ← sx92]))
  k_with "mine drop" => (first | (refine' Drop.head ?a; (case a => k_all)) | (refine' Drop.tail ?a ?b; (case a => k_ne); (case b => walk_at "mine drop")))
  k_with "setAttr ref" => ((k_here; k_dflt (first | (refine' exc_set0 ?k1 ?k2 ?k3 ?k4 ?k5 ?k6 ?k7 ?k8 ?k9 ?_; (case k1 => k_asm); (case k2 => k_asm); (case k3 => k_asm); (case k4 => k_mem); (case k5 => k_is); (case k6 => kernel_rfl); (case k7 => k_is); (case k8 => k_is); (case k9 => intro zqd; k_upd); k_whole; intro zqdp zqhp zqFp zqNp zql1; (try k_lt zql1)) | (refine' exc_set_args ?k1 ?k2 ?k3 ?k4 ?k5 ?k6 ?k7 ?k8 ?k9 ?k10 ?_; (case k1 => k_asm); (case k2 => k_asm); (case k3 => k_asm); (case k4 => first | (refine' InstAt.of_exc ?N ?h1 ?h2; (case N => k_asm); (case h1 => k_mem); (case h2 => k_mem)) | (refine' InstAt.of_exc0 ?N ?h1; (case N => k_asm); (case h1 => k_mem))); (case k5 => exact isTup_of (by k_asm) (by k_mem)); (case k6 => k_is); (case k7 => kernel_rfl); (case k8 => k_is); (case k9 => k_is); (case k10 => k_upd); k_whole; intro zqhp zqFp zqNp) | (refine' exc_set ?k1 ?k2 ?k3 ?k4 ?k5 ?k6 ?k7 ?k8 ?k9 ?k10 ?k11 ?k12 ?_; (case k1 => k_asm); (case k2 => k_asm); (case k3 => k_asm); (case k4 => first | (refine' InstAt.of_exc ?N ?h1 ?h2; (case N => k_asm); (case h1 => k_mem); (case h2 => k_mem)) | (refine' InstAt.of_exc0 ?N ?h1; (case N => k_asm); (case h1 => k_mem))); (case k5 => k_is); (case k6 => kernel_rfl); (case k7 => k_is); (case k8 => k_is); (case k9 => k_get); (case k10 => k_put); (case k11 => k_upd); (case k12 => exact Nat.le_of_ble_eq_true rfl); k_whole; intro zqhp zqFp zqNp))))
  k_with "call builtin:Exception.__init__" => ((k_here; k_dflt (refine' exc_init_call ?k1 ?k2 ?k3 ?k4 ?k5 ?k6 ?_; (case k1 => k_asm); (case k2 => k_asm); (case k3 => k_asm); (case k4 => first | (refine' InstAt.of_exc ?N ?h1 ?h2; (case N => k_asm); (case h1 => k_mem); (case h2 => k_mem)) | (refine' InstAt.of_exc0 ?N ?h1; (case N => k_asm); (case h1 => k_mem))); (case k5 => k_is); (case k6 => intro zqt; k_upd); k_whole; intro zqtp zqhp zqFp zqNp zql1; (try k_lt zql1))))
  k_with "call builtin:repr" => ((k_here; k_dflt (refine' repr_use ?k1 ?k2 ?k3 ?k4 ?k5 ?k6 ?k7 ?_; (case k1 => assumption); (case k2 => k_asm); (case k3 => k_asm); (case k4 => exact rfl); (case k5 => exact rfl); (case k6 => exact Nat.le_of_ble_eq_true rfl); (case k7 => exact Nat.le_of_ble_eq_true rfl); k_whole; intro zqhp zqup zqtkp zqFp zqNp)))
  k_with "BackIn" => ((k_dflt (refine' back_ ?k1 ?k2 ?k3 ?_; (case k1 => k_asm); (case k2 => k_asm); (case k3 => walk_at "mine drop"); k_whole; intro zqFp zqNp; (try dsimp only))))
  k_with "call ref" => ((k_here; k_dflt (refine wpAny_call ?_; refine' enter_in ?k1 ?k2 ?k3 ?k4 ?k5 ?k6 ?k7 ?k8 ?kB ?c2 ?c3 ?c4 ?c5 ?_; (case k1 => k_asm); (case k2 => k_asm); (case k3 => k_asm); (case k4 => exact Top.nolimit (by assumption)); (case k5 => k_is); (case k6 => k_is); (case k7 => exact Nat.le_of_ble_eq_true rfl); (case k8 => first | ((with_reducible show BindsTo _ _ ⟨[_], []⟩ _); first | exact BindsTo.of_eq (binds := [(_, _)]) rfl | exact binds_K (binds := [(_, _)]) (by k_in) rfl (by k_is) rfl rfl rfl) | ((with_reducible show BindsTo _ _ ⟨[_, _], []⟩ _); first | exact BindsTo.of_eq (binds := [(_, _), (_, _)]) rfl | exact binds_K (binds := [(_, _), (_, _)]) (by k_in) rfl (by k_is) rfl rfl rfl) | ((with_reducible show BindsTo _ _ ⟨[_, _, _], []⟩ _); first | exact BindsTo.of_eq (binds := [(_, _), (_, _), (_, _)]) rfl | exact binds_K (binds := [(_, _), (_, _), (_, _)]) (by k_in) rfl (by k_is) rfl rfl rfl) | ((with_reducible show BindsTo _ _ ⟨[_, _, _, _], []⟩ _); first | exact BindsTo.of_eq (binds := [(_, _), (_, _), (_, _), (_, _)]) rfl | exact binds_K (binds := [(_, _), (_, _), (_, _), (_, _)]) (by k_in) rfl (by k_is) rfl rfl rfl) | ((with_reducible show BindsTo _ _ ⟨[_, _, _, _, _], []⟩ _); first | exact BindsTo.of_eq (binds := [(_, _), (_, _), (_, _), (_, _), (_, _)]) rfl | exact binds_K (binds := [(_, _), (_, _), (_, _), (_, _), (_, _)]) (by k_in) rfl (by k_is) rfl rfl rfl)); (case c5 => decide); (case kB => exact locs rfl); (case c2 => exact rfl); (case c3 => exact rfl); (case c4 => exact rfl); k_whole; intro zqoLp zqLp zqhp zqtkp zqFp zqNp zql1 zqn1; (try k_lt zql1); (try (replace zqn1 := allNe_of zqn1; simp only [AllNe, and_true] at zqn1)); (try dsimp only); walk_at "mine texts")))
  k_with "call builtin:str.join" => ((k_here; (with_reducible show wpAny _ _ (call (Value.builtin "str.join") [Value.str _ _, Value.ref _]) _ _ _); k_dflt (refine join_listC (by is_list) (by repeat constructor) (by decide) (by (simp only [List.map_cons, List.map_nil, List.sum_cons, List.sum_nil, List.length_cons, List.length_nil]; omega)) ?_); intro zqtp zqkp))
  k_with "getMethod type:Exception" => ((k_here; refine' method_type ?F ?X ?m (by decide +kernel) ?e ?h ?_; (case F => k_asm); (case X => k_asm); (case m => exact meta_Exception); (case e => k_dflt k_is); (case h => k_handed)))
  k_with "compareOp IsNot" => ((k_here; k_dflt (refine isNot_none (by assumption) ?_)))
  k_with "call builtin:str.format" => ((k_here; k_dflt (refine' line_use ?k1 ?k2 ?k3 ?k4 ?k5 ?k6 ?k7 ?_; (case k1 => assumption); (case k2 => k_asm); (case k3 => k_asm); (case k4 => exact rfl); (case k5 => exact rfl); (case k6 => exact Nat.le_of_ble_eq_true rfl); (case k7 => exact Nat.le_of_ble_eq_true rfl); k_whole; intro zqhp zqup zqtkp zqFp zqNp)))
  k_with "call builtin:str.format" => ((k_here; (with_reducible show wpAny _ _ (call (Value.builtin "str.format") [Value.str _ _, _, _, _, _]) _ _ _); k_dflt (refine' fmt_use ?k1 ?k2 ?k3 ?k4 ?k5 ?_; (case k1 => k_asm); (case k2 => k_asm); (case k3 => exact ⟨rfl, rfl, Nat.le_of_ble_eq_true rfl, Nat.le_of_ble_eq_true rfl⟩); (case k4 => exact args_5 _ _ _ _ _); (case k5 => walk_at "mine fmt")); k_whole; intro zqhp zqup zqtkp zqFp zqNp))
  k_with "pyReprObj" => ((k_here; k_dflt (refine' reprObj_use ?k1 ?k2 ?k3 ?k4 ?k5 ?k6 ?k7 ?_; (case k1 => assumption); (case k2 => k_asm); (case k3 => k_asm); (case k4 => exact rfl); (case k5 => exact rfl); (case k6 => exact Nat.le_of_ble_eq_true rfl); (case k7 => exact Nat.le_of_ble_eq_true rfl); k_whole; intro zqhp zqup zqtkp zqFp zqNp)))
  trivial
def Stop02 (P : Prop) : Prop := P
theorem layR023 : True := by
  k_with "StarOf" => ((refine (id : Stop02 _ → _) ?_))
  trivial
theorem ref99 : ∀ {p : Program} {loose : List Str} {mean : ExcName → Option Value} {mg mb : Str → Option Value} (w : World) {h₀ : Heap} {LL a la : Addr} {m : Str → Option Value} {cn : Str} {cs : Scope} {ccd : Value} (s : Shared) (vs : List Value) (c0 : Nat)
    (F : Fr h₀ LL s.heap m) (N : News h₀ LL s.heap [(la, listOf vs.toArray c0)]) (KX : (hz.heap_129 w.params).In h₀) (T : Top p loose mean mg mb h₀) (t2 : ("TypeError" : Str) ∉ loose) (t3 : ("TypeError" : Str) ∉ (recsOf p).map (·.name)) (t4 : ("TypeError" : Str) ∉ (litsOf p).map (·.1)) (t5 : ("TypeError" : Str) ∉ (clssOf p loose).map (·.name)) (hvs : vs.length ≤ 2) (hck : cs.kind = .function)
    (href : ∀ (A : Around) (s : Shared) (Q E : Value → Shared → Prop), (hz.heap_129 w.params).In s.heap → A.handled = none → A.depth ≤ 900 → (∀ h' tk e, Heap.NewExc s.heap h' e "TypeError" → E (.ref e) { s with heap := h', toks := tk }) → wpH (model PySem.Challenge.rw_dm0028_02.prog w) A (call (.ref 59) vs) Q E s)
    (Q E : Value → Shared → Prop) (hQ : ∀ h' tk, Fr h₀ LL h' m → Q (.bool true) { s with heap := h', toks := tk }),
    wpH (model PySem.Challenge.rw_dm0028_02.prog w) (callerA.deeper (envOf cn cs LL a ccd)) (call (.ref 99) [.ref la]) Q E s := by
  w_top off
  k_fill
  intro p loose mean mg mb w h₀ LL a la m cn cs ccd s vs c0 F N KX T t2 t3 t4 t5 hvs hck href Q E hQ
  obtain ⟨hh, g, dr, tk, os⟩ := s
  dsimp only at F N hQ
  w_strict (
  refine wpH_call ?_
  refine enterH (binds := [("values", .ref la)]) F KX N T.nolimit (by k_is) (by k_is) (Nat.le_of_ble_eq_true rfl) (by first | exact BindsTo.of_eq rfl | exact binds_K (KX.keeps F.keep) rfl (by k_is) rfl rfl rfl) (locs rfl) rfl rfl rfl (by decide) hck ?_
  intro oL L' h1 tk1 C Fs F1 N1
  clear F N
  refine wpH_execs (wpH_Try (wpH_execs (wpH_Expr rfl rfl (wpH_star (K := hz.heap_129 w.params) ?_))))
  k_steps
  unfold Stop02
  refine star_seq (n := c0) F1 N1 (.head _) rfl rfl (.inl rfl) (List.toList_toArray ..) (by rw [sizeLine_eq]; simp only [List.size_toArray]; omega) ?_
  intro h2 F2 N2
  clear F1 N1
  refine ⟨KX.keeps F2.keep, href _ _ _ _ (KX.keeps F2.keep) rfl (Nat.le_of_ble_eq_true rfl) ?_⟩
  intro h3 tk3 e x
  refine TI.noted_newT (new := [(la, listOf vs.toArray c0)]) rfl Fs x F2 N2 rfl ?_
  intro h4 frs SU Fs4 H4
  clear F2 N2
  refine H4.land ?_
  intro h5 H5
  refine TT.clause_hitTN (x := "TypeError") H5 T (t2 := t2) (t3 := t3) (t4 := t4) (t5 := t5) (k := ?_) (hv := by boot_by_name)
  intro h6 F6 N6
  k_steps
  refine TI.leaveI (s' := ⟨h6, g, dr, tk3, os⟩) (new := [(la, listOf vs.toArray c0)]) C F6 N6 SU rfl ?_
  intro F7 N7
  exact hQ _ _ F7
  )
end
section
theorem layF021 : True := by
  k_with_none
  k_with "ne" => (with_reducible (first | exact ns1 | exact ns2 | exact qlt (by assumption) | exact qgt (by assumption) | exact qne (by assumption) | exact qen (by assumption) | exact rlt (by assumption) | exact rgt (by assumption) | exact rne (by assumption) | exact ren (by assumption) | exact qlt (And.right (by assumption)) | exact qgt (And.right (by assumption)) | exact qne (And.right (by assumption)) | exact qen (And.right (by assumption)) | exact rlt (And.right (by assumption)) | exact rgt (And.right (by assumption)) | exact rne (And.right (by assumption)) | exact ren (And.right (by assumption)) | exact qlt (And.right (And.right (by assumption))) | exact qgt (And.right (And.right (by assumption))) | exact qne (And.right (And.right (by assumption))) | exact qen (And.right (And.right (by assumption))) | exact rlt (And.right (And.right (by assumption))) | exact rgt (And.right (And.right (by assumption))) | exact rne (And.right (And.right (by assumption))) | exact ren (And.right (And.right (by assumption))) | exact qlt (And.right (And.right (And.right (by assumption)))) | exact qgt (And.right (And.right (And.right (by assumption)))) | exact qne (And.right (And.right (And.right (by assumption)))) | exact qen (And.right (And.right (And.right (by assumption)))) | exact rlt (And.right (And.right (And.right (by assumption)))) | exact rgt (And.right (And.right (And.right (by assumption)))) | exact rne (And.right (And.right (And.right (by assumption)))) | exact ren (And.right (And.right (And.right (by assumption)))) | exact qlt (And.right (And.right (And.right (And.right (by assumption))))) | exact qgt (And.right (And.right (And.right (And.right (by assumption))))) | exact qne (And.right (And.right (And.right (And.right (by assumption))))) | exact qen (And.right (And.right (And.right (And.right (by assumption))))) | exact rlt (And.right (And.right (And.right (And.right (by assumption))))) | exact rgt (And.right (And.right (And.right (And.right (by assumption))))) | exact rne (And.right (And.right (And.right (And.right (by assumption))))) | exact ren (And.right (And.right (And.right (And.right (by assumption))))) | exact qlt (And.right (And.right (And.right (And.right (And.right (by assumption)))))) | exact qgt (And.right (And.right (And.right (And.right (And.right (by assumption)))))) | exact qne (And.right (And.right (And.right (And.right (And.right (by assumption)))))) | exact qen (And.right (And.right (And.right (And.right (And.right (by assumption)))))) | exact rlt (And.right (And.right (And.right (And.right (And.right (by assumption)))))) | exact rgt (And.right (And.right (And.right (And.right (And.right (by assumption)))))) | exact rne (And.right (And.right (And.right (And.right (And.right (by assumption)))))) | exact ren (And.right (And.right (And.right (And.right (And.right (by assumption)))))) | exact qlt (And.right (And.right (And.right (And.right (And.right (And.right (by assumption))))))) | exact qgt (And.right (And.right (And.right (And.right (And.right (And.right (by assumption))))))) | exact qne (And.right (And.right (And.right (And.right (And.right (And.right (by assumption))))))) | exact qen (And.right (And.right (And.right (And.right (And.right (And.right (by assumption))))))) | exact rlt (And.right (And.right (And.right (And.right (And.right (And.right (by assumption))))))) | exact rgt (And.right (And.right (And.right (And.right (And.right (And.right (by assumption))))))) | exact rne (And.right (And.right (And.right (And.right (And.right (And.right (by assumption))))))) | exact ren (And.right (And.right (And.right (And.right (And.right (And.right (by assumption))))))) | exact qlt (And.right (And.right (And.right (And.right (And.right (And.right (And.right (by assumption)))))))) | exact qgt (And.right (And.right (And.right (And.right (And.right (And.right (And.right (by assumption)))))))) | exact qne (And.right (And.right (And.right (And.right (And.right (And.right (And.right (by assumption)))))))) | exact qen (And.right (And.right (And.right (And.right (And.right (And.right (And.right (by assumption)))))))) | exact rlt (And.right (And.right (And.right (And.right (And.right (And.right (And.right (by assumption)))))))) | exact rgt (And.right (And.right (And.right (And.right (And.right (And.right (And.right (by assumption)))))))) | exact rne (And.right (And.right (And.right (And.right (And.right (And.right (And.right (by assumption)))))))) | exact ren (And.right (And.right (And.right (And.right (And.right (And.right (And.right (by assumption)))))))) | exact qlt (And.right (And.right (And.right (And.right (And.right (And.right (And.right (And.right (by assumption))))))))) | exact qgt (And.right (And.right (And.right (And.right (And.right (And.right (And.right (And.right (by assumption))))))))) | exact qne (And.right (And.right (And.right (And.right (And.right (And.right (And.right (And.right (by assumption))))))))) | exact qen (And.right (And.right (And.right (And.right (And.right (And.right (And.right (And.right (by assumption))))))))) | exact rlt (And.right (And.right (And.right (And.right (And.right (And.right (And.right (And.right (by assumption))))))))) | exact rgt (And.right (And.right (And.right (And.right (And.right (And.right (And.right (And.right (by assumption))))))))) | exact rne (And.right (And.right (And.right (And.right (And.right (And.right (And.right (And.right (by assumption))))))))) | exact ren (And.right (And.right (And.right (And.right (And.right (And.right (And.right (And.right (by assumption))))))))) | exact qlt (And.right (And.right (And.right (And.right (And.right (And.right (And.right (And.right (And.right (by assumption)))))))))) | exact qgt (And.right (And.right (And.right (And.right (And.right (And.right (And.right (And.right (And.right (by assumption)))))))))) | exact qne (And.right (And.right (And.right (And.right (And.right (And.right (And.right (And.right (And.right (by assumption)))))))))) | exact qen (And.right (And.right (And.right (And.right (And.right (And.right (And.right (And.right (And.right (by assumption)))))))))) | exact rlt (And.right (And.right (And.right (And.right (And.right (And.right (And.right (And.right (And.right (by assumption)))))))))) | exact rgt (And.right (And.right (And.right (And.right (And.right (And.right (And.right (And.right (And.right (by assumption)))))))))) | exact rne (And.right (And.right (And.right (And.right (And.right (And.right (And.right (And.right (And.right (by assumption)))))))))) | exact ren (And.right (And.right (And.right (And.right (And.right (And.right (And.right (And.right (And.right (by assumption)))))))))) | exact qlt (And.right (And.right (And.right (And.right (And.right (And.right (And.right (And.right (And.right (And.right (by assumption))))))))))) | exact qgt (And.right (And.right (And.right (And.right (And.right (And.right (And.right (And.right (And.right (And.right (by assumption))))))))))) | exact qne (And.right (And.right (And.right (And.right (And.right (And.right (And.right (And.right (And.right (And.right (by assumption))))))))))) | exact qen (And.right (And.right (And.right (And.right (And.right (And.right (And.right (And.right (And.right (And.right (by assumption))))))))))) | exact rlt (And.right (And.right (And.right (And.right (And.right (And.right (And.right (And.right (And.right (And.right (by assumption))))))))))) | exact rgt (And.right (And.right (And.right (And.right (And.right (And.right (And.right (And.right (And.right (And.right (by assumption))))))))))) | exact rne (And.right (And.right (And.right (And.right (And.right (And.right (And.right (And.right (And.right (And.right (by assumption))))))))))) | exact ren (And.right (And.right (And.right (And.right (And.right (And.right (And.right (And.right (And.right (And.right (by assumption))))))))))) | exact qlt (And.right (And.right (And.right (And.right (And.right (And.right (And.right (And.right (And.right (And.right (And.right (by assumption)))))))))))) | exact qgt (And.right (And.right (And.right (And.right (And.right (And.right (And.right (And.right (And.right (And.right (And.right (by assumption)))))))))))) | exact qne (And.right (And.right (And.right (And.right (And.right (And.right (And.right (And.right (And.right (And.right (And.right (by assumption)))))))))))) | exact qen (And.right (And.right (And.right (And.right (And.right (And.right (And.right (And.right (And.right (And.right (And.right (by assumption)))))))))))) | exact rlt (And.right (And.right (And.right (And.right (And.right (And.right (And.right (And.right (And.right (And.right (And.right (by assumption)))))))))))) | exact rgt (And.right (And.right (And.right (And.right (And.right (And.right (And.right (And.right (And.right (And.right (And.right (by assumption)))))))))))) | exact rne (And.right (And.right (And.right (And.right (And.right (And.right (And.right (And.right (And.right (And.right (And.right (by assumption)))))))))))) | exact ren (And.right (And.right (And.right (And.right (And.right (And.right (And.right (And.right (And.right (And.right (And.right (by assumption)))))))))))) | exact qlt (And.right (And.right (And.right (And.right (And.right (And.right (And.right (And.right (And.right (And.right (And.right (And.right (by assumption))))))))))))) | exact qgt (And.right (And.right (And.right (And.right (And.right (And.right (And.right (And.right (And.right (And.right (And.right (And.right (by assumption))))))))))))) | exact qne (And.right (And.right (And.right (And.right (And.right (And.right (And.right (And.right (And.right (And.right (And.right (And.right (by assumption))))))))))))) | exact qen (And.right (And.right (And.right (And.right (And.right (And.right (And.right (And.right (And.right (And.right (And.right (And.right (by assumption))))))))))))) | exact rlt (And.right (And.right (And.right (And.right (And.right (And.right (And.right (And.right (And.right (And.right (And.right (And.right (by assumption))))))))))))) | exact rgt (And.right (And.right (And.right (And.right (And.right (And.right (And.right (And.right (And.right (And.right (And.right (And.right (by assumption))))))))))))) | exact rne (And.right (And.right (And.right (And.right (And.right (And.right (And.right (And.right (And.right (And.right (And.right (And.right (by assumption))))))))))))) | exact ren (And.right (And.right (And.right (And.right (And.right (And.right (And.right (And.right (And.right (And.right (And.right (And.right (by assumption))))))))))))) | exact qlt (And.right (And.right (And.right (And.right (And.right (And.right (And.right (And.right (And.right (And.right (And.right (And.right (And.right (by assumption)))))))))))))) | exact qgt (And.right (And.right (And.right (And.right (And.right (And.right (And.right (And.right (And.right (And.right (And.right (And.right (And.right (by assumption)))))))))))))) | exact qne (And.right (And.right (And.right (And.right (And.right (And.right (And.right (And.right (And.right (And.right (And.right (And.right (And.right (by assumption)))))))))))))) | exact qen (And.right (And.right (And.right (And.right (And.right (And.right (And.right (And.right (And.right (And.right (And.right (And.right (And.right (by assumption)))))))))))))) | exact rlt (And.right (And.right (And.right (And.right (And.right (And.right (And.right (And.right (And.right (And.right (And.right (And.right (And.right (by assumption)))))))))))))) | exact rgt (And.right (And.right (And.right (And.right (And.right (And.right (And.right (And.right (And.right (And.right (And.right (And.right (And.right (by assumption)))))))))))))) | exact rne (And.right (And.right (And.right (And.right (And.right (And.right (And.right (And.right (And.right (And.right (And.right (And.right (And.right (by assumption)))))))))))))) | exact ren (And.right (And.right (And.right (And.right (And.right (And.right (And.right (And.right (And.right (And.right (And.right (And.right (And.right (by assumption)))))))))))))) | exact qlt (And.right (And.right (And.right (And.right (And.right (And.right (And.right (And.right (And.right (And.right (And.right (And.right (And.right (And.right (by assumption))))))))))))))) | exact qgt (And.right (And.right (And.right (And.right (And.right (And.right (And.right (And.right (And.right (And.right (And.right (And.right (And.right (And.right (by assumption))))))))))))))) | exact qne (And.right (And.right (And.right (And.right (And.right (And.right (And.right (And.right (And.right (And.right (And.right (And.right (And.right (And.right (by assumption))))))))))))))) | exact qen (And.right (And.right (And.right (And.right (And.right (And.right (And.right (And.right (And.right (And.right (And.right (And.right (And.right (And.right (by assumption))))))))))))))) | exact rlt (And.right (And.right (And.right (And.right (And.right (And.right (And.right (And.right (And.right (And.right (And.right (And.right (And.right (And.right (by assumption))))))))))))))) | exact rgt (And.right (And.right (And.right (And.right (And.right (And.right (And.right (And.right (And.right (And.right (And.right (And.right (And.right (And.right (by assumption))))))))))))))) | exact rne (And.right (And.right (And.right (And.right (And.right (And.right (And.right (And.right (And.right (And.right (And.right (And.right (And.right (And.right (by assumption))))))))))))))) | exact ren (And.right (And.right (And.right (And.right (And.right (And.right (And.right (And.right (And.right (And.right (And.right (And.right (And.right (And.right (by assumption))))))))))))))) | exact qlt (And.right (And.right (And.right (And.right (And.right (And.right (And.right (And.right (And.right (And.right (And.right (And.right (And.right (And.right (And.right (by assumption)))))))))))))))) | exact qgt (And.right (And.right (And.right (And.right (And.right (And.right (And.right (And.right (And.right (And.right (And.right (And.right (And.right (And.right (And.right (by assumption)))))))))))))))) | exact qne (And.right (And.right (And.right (And.right (And.right (And.right (And.right (And.right (And.right (And.right (And.right (And.right (And.right (And.right (And.right (by assumption)))))))))))))))) | exact qen (And.right (And.right (And.right (And.right (And.right (And.right (And.right (And.right (And.right (And.right (And.right (And.right (And.right (And.right (And.right (by assumption)))))))))))))))) | exact rlt (And.right (And.right (And.right (And.right (And.right (And.right (And.right (And.right (And.right (And.right (And.right (And.right (And.right (And.right (And.right (by assumption)))))))))))))))) | exact rgt (And.right (And.right (And.right (And.right (And.right (And.right (And.right (And.right (And.right (And.right (And.right (And.right (And.right (And.right (And.right (by assumption)))))))))))))))) | exact rne (And.right (And.right (And.right (And.right (And.right (And.right (And.right (And.right (And.right (And.right (And.right (And.right (And.right (And.right (And.right (by assumption)))))))))))))))) | exact ren (And.right (And.right (And.right (And.right (And.right (And.right (And.right (And.right (And.right (And.right (And.right (And.right (And.right (And.right (And.right (by assumption))))))))))))))))))
  trivial
theorem layF022 : True := by
  k_with "mine texts" => ((try dsimp only [← sx0, ← sx1, ← sx2, ← sx3, ← sx4, ← sx5, ← sx6, ← sx7, ← sx8, ← sx9, ← sx10, ← sx11, ← sx12, ← sx13, ← sx14, ← sx15, ← sx16, ← sx17, ← sx18, ← sx19, ← sx20, ← sx21, ← sx22, ← sx23, ← sx24, ← sx25, ← sx26, ← sx27, ← sx28, ← sx29, ← sx30, ← sx31, ← sx32, ← sx33, ← sx34, ← sx35, ← sx36, ← sx37, ← sx38, ← sx39, ← sx40, ← sx41, ← sx42, ← sx43, ← sx44, ← sx45, ← sx46, ← sx47, ← sx48, ← sx49, ← sx50, ← sx51, ← sx52, ← sx53, ← sx54, ← sx55, ← sx56, ← sx57, ← sx58, ← sx59, ← sx60, ← sx61, ← sx62, ← sx63, ← sx64, ← sx65, ← sx66, ← sx67, ← sx68, ← sx69, ← sx70, ← sx71, ← sx72, ← sx73, ← sx74, ← sx75, ← sx76, ← sx77, ← sx78, ← sx79, ← sx80, ← sx81, ← sx82, ← sx83, ← sx84, ← sx85, ← sx86, ← sx87, ← sx88, ← sx89, ← sx90, ← sx91, ← sx92]))
  k_with "mine drop" => (first | (refine' Drop.head ?a; (case a => k_all)) | (refine' Drop.tail ?a ?b; (case a => k_ne); (case b => walk_at "mine drop")))
  k_with "setAttr ref" => ((k_here; k_dflt (first | (refine' exc_set0 ?k1 ?k2 ?k3 ?k4 ?k5 ?k6 ?k7 ?k8 ?k9 ?_; (case k1 => k_asm); (case k2 => k_asm); (case k3 => k_asm); (case k4 => k_mem); (case k5 => k_is); (case k6 => kernel_rfl); (case k7 => k_is); (case k8 => k_is); (case k9 => intro zqd; k_upd); k_whole; intro zqdp zqhp zqFp zqNp zql1; (try k_lt zql1)) | (refine' exc_set_args ?k1 ?k2 ?k3 ?k4 ?k5 ?k6 ?k7 ?k8 ?k9 ?k10 ?_; (case k1 => k_asm); (case k2 => k_asm); (case k3 => k_asm); (case k4 => first | (refine' InstAt.of_exc ?N ?h1 ?h2; (case N => k_asm); (case h1 => k_mem); (case h2 => k_mem)) | (refine' InstAt.of_exc0 ?N ?h1; (case N => k_asm); (case h1 => k_mem))); (case k5 => exact isTup_of (by k_asm) (by k_mem)); (case k6 => k_is); (case k7 => kernel_rfl); (case k8 => k_is); (case k9 => k_is); (case k10 => k_upd); k_whole; intro zqhp zqFp zqNp) | (refine' exc_set ?k1 ?k2 ?k3 ?k4 ?k5 ?k6 ?k7 ?k8 ?k9 ?k10 ?k11 ?k12 ?_; (case k1 => k_asm); (case k2 => k_asm); (case k3 => k_asm); (case k4 => first | (refine' InstAt.of_exc ?N ?h1 ?h2; (case N => k_asm); (case h1 => k_mem); (case h2 => k_mem)) | (refine' InstAt.of_exc0 ?N ?h1; (case N => k_asm); (case h1 => k_mem))); (case k5 => k_is); (case k6 => kernel_rfl); (case k7 => k_is); (case k8 => k_is); (case k9 => k_get); (case k10 => k_put); (case k11 => k_upd); (case k12 => exact Nat.le_of_ble_eq_true rfl); k_whole; intro zqhp zqFp zqNp))))
  k_with "call builtin:Exception.__init__" => ((k_here; k_dflt (refine' exc_init_call ?k1 ?k2 ?k3 ?k4 ?k5 ?k6 ?_; (case k1 => k_asm); (case k2 => k_asm); (case k3 => k_asm); (case k4 => first | (refine' InstAt.of_exc ?N ?h1 ?h2; (case N => k_asm); (case h1 => k_mem); (case h2 => k_mem)) | (refine' InstAt.of_exc0 ?N ?h1; (case N => k_asm); (case h1 => k_mem))); (case k5 => k_is); (case k6 => intro zqt; k_upd); k_whole; intro zqtp zqhp zqFp zqNp zql1; (try k_lt zql1))))
  k_with "call builtin:repr" => ((k_here; k_dflt (refine' repr_use ?k1 ?k2 ?k3 ?k4 ?k5 ?k6 ?k7 ?_; (case k1 => assumption); (case k2 => k_asm); (case k3 => k_asm); (case k4 => exact rfl); (case k5 => exact rfl); (case k6 => exact Nat.le_of_ble_eq_true rfl); (case k7 => exact Nat.le_of_ble_eq_true rfl); k_whole; intro zqhp zqup zqtkp zqFp zqNp)))
  k_with "BackIn" => ((k_dflt (refine' back_ ?k1 ?k2 ?k3 ?_; (case k1 => k_asm); (case k2 => k_asm); (case k3 => walk_at "mine drop"); k_whole; intro zqFp zqNp; (try dsimp only))))
  k_with "call ref" => ((k_here; k_dflt (refine wpAny_call ?_; refine' enter_in ?k1 ?k2 ?k3 ?k4 ?k5 ?k6 ?k7 ?k8 ?kB ?c2 ?c3 ?c4 ?c5 ?_; (case k1 => k_asm); (case k2 => k_asm); (case k3 => k_asm); (case k4 => exact Top.nolimit (by assumption)); (case k5 => k_is); (case k6 => k_is); (case k7 => exact Nat.le_of_ble_eq_true rfl); (case k8 => first | ((with_reducible show BindsTo _ _ ⟨[_], []⟩ _); first | exact BindsTo.of_eq (binds := [(_, _)]) rfl | exact binds_K (binds := [(_, _)]) (by k_in) rfl (by k_is) rfl rfl rfl) | ((with_reducible show BindsTo _ _ ⟨[_, _], []⟩ _); first | exact BindsTo.of_eq (binds := [(_, _), (_, _)]) rfl | exact binds_K (binds := [(_, _), (_, _)]) (by k_in) rfl (by k_is) rfl rfl rfl) | ((with_reducible show BindsTo _ _ ⟨[_, _, _], []⟩ _); first | exact BindsTo.of_eq (binds := [(_, _), (_, _), (_, _)]) rfl | exact binds_K (binds := [(_, _), (_, _), (_, _)]) (by k_in) rfl (by k_is) rfl rfl rfl) | ((with_reducible show BindsTo _ _ ⟨[_, _, _, _], []⟩ _); first | exact BindsTo.of_eq (binds := [(_, _), (_, _), (_, _), (_, _)]) rfl | exact binds_K (binds := [(_, _), (_, _), (_, _), (_, _)]) (by k_in) rfl (by k_is) rfl rfl rfl) | ((with_reducible show BindsTo _ _ ⟨[_, _, _, _, _], []⟩ _); first | exact BindsTo.of_eq (binds := [(_, _), (_, _), (_, _), (_, _), (_, _)]) rfl | exact binds_K (binds := [(_, _), (_, _), (_, _), (_, _), (_, _)]) (by k_in) rfl (by k_is) rfl rfl rfl)); (case c5 => decide); (case kB => exact locs rfl); (case c2 => exact rfl); (case c3 => exact rfl); (case c4 => exact rfl); k_whole; intro zqoLp zqLp zqhp zqtkp zqFp zqNp zql1 zqn1; (try k_lt zql1); (try (replace zqn1 := allNe_of zqn1; simp only [AllNe, and_true] at zqn1)); (try dsimp only); walk_at "mine texts")))
  k_with "call builtin:str.join" => ((k_here; (with_reducible show wpAny _ _ (call (Value.builtin "str.join") [Value.str _ _, Value.ref _]) _ _ _); k_dflt (refine join_listC (by is_list) (by repeat constructor) (by decide) (by (simp only [List.map_cons, List.map_nil, List.sum_cons, List.sum_nil, List.length_cons, List.length_nil]; omega)) ?_); intro zqtp zqkp))
  k_with "getMethod type:Exception" => ((k_here; refine' method_type ?F ?X ?m (by decide +kernel) ?e ?h ?_; (case F => k_asm); (case X => k_asm); (case m => exact meta_Exception); (case e => k_dflt k_is); (case h => k_handed)))
  k_with "compareOp IsNot" => ((k_here; k_dflt (refine isNot_none (by assumption) ?_)))
  k_with "call builtin:str.format" => ((k_here; k_dflt (refine' line_use ?k1 ?k2 ?k3 ?k4 ?k5 ?k6 ?k7 ?_; (case k1 => assumption); (case k2 => k_asm); (case k3 => k_asm); (case k4 => exact rfl); (case k5 => exact rfl); (case k6 => exact Nat.le_of_ble_eq_true rfl); (case k7 => exact Nat.le_of_ble_eq_true rfl); k_whole; intro zqhp zqup zqtkp zqFp zqNp)))
  k_with "call builtin:str.format" => ((k_here; (with_reducible show wpAny _ _ (call (Value.builtin "str.format") [Value.str _ _, _, _, _, _]) _ _ _); k_dflt (refine' fmt_use ?k1 ?k2 ?k3 ?k4 ?k5 ?_; (case k1 => k_asm); (case k2 => k_asm); (case k3 => exact ⟨rfl, rfl, Nat.le_of_ble_eq_true rfl, Nat.le_of_ble_eq_true rfl⟩); (case k4 => exact args_5 _ _ _ _ _); (case k5 => walk_at "mine fmt")); k_whole; intro zqhp zqup zqtkp zqFp zqNp))
  k_with "pyReprObj" => ((k_here; k_dflt (refine' reprObj_use ?k1 ?k2 ?k3 ?k4 ?k5 ?k6 ?k7 ?_; (case k1 => assumption); (case k2 => k_asm); (case k3 => k_asm); (case k4 => exact rfl); (case k5 => exact rfl); (case k6 => exact Nat.le_of_ble_eq_true rfl); (case k7 => exact Nat.le_of_ble_eq_true rfl); k_whole; intro zqhp zqup zqtkp zqFp zqNp)))
  trivial
theorem ref59a : ∀ (w : World) (A : Around) (s : Shared)  (Q E : Value → Shared → Prop) (KX : (hz.heap_129 w.params).In s.heap) (hA : A.handled = none) (hd : A.depth ≤ 900)
    (hQ : ∀ h' tk e, Heap.NewExc s.heap h' e "TypeError" → E (.ref e) { s with heap := h', toks := tk }), wpH (model PySem.Challenge.rw_dm0028_02.prog w) A (call (.ref 59) []) Q E s := by
  w_top off
  k_fill
  intro w A s  Q E KX hA hd hQ
  obtain ⟨hh, g, dr, tk, os⟩ := s
  dsimp only at KX hQ
  w_strict (
  refine wpH_call ?_
  refine exc_makeH (KX 59 _ (by k_is)) (by decide +kernel) (by decide +kernel) (by decide +kernel) (looks_specialIn KX (by k_is)) (looks_instIn KX (by k_is)) (looks_findIn KX (by k_is)) (fun self => bind_fn KX self (by k_is)) (by rw [sizeLine_eq]; exact Nat.le_of_ble_eq_true rfl) ?_
  refine refusedH (Frag.In.keeps KX (made_grow _ _ _)) (by k_is) (by k_is) (under_call hd) ?zb hA rfl rfl ?zh
  case zb =>
    intro A1 E1 Q1 h1 h2
    exact bind_lacks rfl rfl rfl rfl rfl h1 h2
  case zh =>
   intro h' tk' e x
   exact ⟨_, rfl, hQ h' tk' e (newExc_up (made_grow _ _ _) x)⟩)
theorem ref59b : ∀ (w : World) (A : Around) (s : Shared) (v u : Value) (Q E : Value → Shared → Prop) (KX : (hz.heap_129 w.params).In s.heap) (hA : A.handled = none) (hd : A.depth ≤ 900)
    (hQ : ∀ h' tk e, Heap.NewExc s.heap h' e "TypeError" → E (.ref e) { s with heap := h', toks := tk }), wpH (model PySem.Challenge.rw_dm0028_02.prog w) A (call (.ref 59) [v, u]) Q E s := by
  w_top off
  k_fill
  intro w A s v u Q E KX hA hd hQ
  obtain ⟨hh, g, dr, tk, os⟩ := s
  dsimp only at KX hQ
  w_strict (
  refine wpH_call ?_
  refine exc_makeH (KX 59 _ (by k_is)) (by decide +kernel) (by decide +kernel) (by decide +kernel) (looks_specialIn KX (by k_is)) (looks_instIn KX (by k_is)) (looks_findIn KX (by k_is)) (fun self => bind_fn KX self (by k_is)) (by rw [sizeLine_eq]; exact Nat.le_of_ble_eq_true rfl) ?_
  refine refusedH (Frag.In.keeps KX (made_grow _ _ _)) (by k_is) (by k_is) (under_call hd) ?zb hA rfl rfl ?zh
  case zb =>
    intro A1 E1 Q1 h1 h2
    exact bind_over rfl rfl rfl rfl rfl h1 h2
  case zh =>
   intro h' tk' e x
   exact ⟨_, rfl, hQ h' tk' e (newExc_up (made_grow _ _ _) x)⟩)
end
section
open PySem.SeqAt
theorem lay3 : True := by
  k_with_none
  k_with "ne" => (with_reducible (first | exact ns1 | exact ns2 | exact qlt (by assumption) | exact qgt (by assumption) | exact qne (by assumption) | exact qen (by assumption) | exact rlt (by assumption) | exact rgt (by assumption) | exact rne (by assumption) | exact ren (by assumption) | exact qlt (And.right (by assumption)) | exact qgt (And.right (by assumption)) | exact qne (And.right (by assumption)) | exact qen (And.right (by assumption)) | exact rlt (And.right (by assumption)) | exact rgt (And.right (by assumption)) | exact rne (And.right (by assumption)) | exact ren (And.right (by assumption)) | exact qlt (And.right (And.right (by assumption))) | exact qgt (And.right (And.right (by assumption))) | exact qne (And.right (And.right (by assumption))) | exact qen (And.right (And.right (by assumption))) | exact rlt (And.right (And.right (by assumption))) | exact rgt (And.right (And.right (by assumption))) | exact rne (And.right (And.right (by assumption))) | exact ren (And.right (And.right (by assumption))) | exact qlt (And.right (And.right (And.right (by assumption)))) | exact qgt (And.right (And.right (And.right (by assumption)))) | exact qne (And.right (And.right (And.right (by assumption)))) | exact qen (And.right (And.right (And.right (by assumption)))) | exact rlt (And.right (And.right (And.right (by assumption)))) | exact rgt (And.right (And.right (And.right (by assumption)))) | exact rne (And.right (And.right (And.right (by assumption)))) | exact ren (And.right (And.right (And.right (by assumption)))) | exact qlt (And.right (And.right (And.right (And.right (by assumption))))) | exact qgt (And.right (And.right (And.right (And.right (by assumption))))) | exact qne (And.right (And.right (And.right (And.right (by assumption))))) | exact qen (And.right (And.right (And.right (And.right (by assumption))))) | exact rlt (And.right (And.right (And.right (And.right (by assumption))))) | exact rgt (And.right (And.right (And.right (And.right (by assumption))))) | exact rne (And.right (And.right (And.right (And.right (by assumption))))) | exact ren (And.right (And.right (And.right (And.right (by assumption))))) | exact qlt (And.right (And.right (And.right (And.right (And.right (by assumption)))))) | exact qgt (And.right (And.right (And.right (And.right (And.right (by assumption)))))) | exact qne (And.right (And.right (And.right (And.right (And.right (by assumption)))))) | exact qen (And.right (And.right (And.right (And.right (And.right (by assumption)))))) | exact rlt (And.right (And.right (And.right (And.right (And.right (by assumption)))))) | exact rgt (And.right (And.right (And.right (And.right (And.right (by assumption)))))) | exact rne (And.right (And.right (And.right (And.right (And.right (by assumption)))))) | exact ren (And.right (And.right (And.right (And.right (And.right (by assumption)))))) | exact qlt (And.right (And.right (And.right (And.right (And.right (And.right (by assumption))))))) | exact qgt (And.right (And.right (And.right (And.right (And.right (And.right (by assumption))))))) | exact qne (And.right (And.right (And.right (And.right (And.right (And.right (by assumption))))))) | exact qen (And.right (And.right (And.right (And.right (And.right (And.right (by assumption))))))) | exact rlt (And.right (And.right (And.right (And.right (And.right (And.right (by assumption))))))) | exact rgt (And.right (And.right (And.right (And.right (And.right (And.right (by assumption))))))) | exact rne (And.right (And.right (And.right (And.right (And.right (And.right (by assumption))))))) | exact ren (And.right (And.right (And.right (And.right (And.right (And.right (by assumption))))))) | exact qlt (And.right (And.right (And.right (And.right (And.right (And.right (And.right (by assumption)))))))) | exact qgt (And.right (And.right (And.right (And.right (And.right (And.right (And.right (by assumption)))))))) | exact qne (And.right (And.right (And.right (And.right (And.right (And.right (And.right (by assumption)))))))) | exact qen (And.right (And.right (And.right (And.right (And.right (And.right (And.right (by assumption)))))))) | exact rlt (And.right (And.right (And.right (And.right (And.right (And.right (And.right (by assumption)))))))) | exact rgt (And.right (And.right (And.right (And.right (And.right (And.right (And.right (by assumption)))))))) | exact rne (And.right (And.right (And.right (And.right (And.right (And.right (And.right (by assumption)))))))) | exact ren (And.right (And.right (And.right (And.right (And.right (And.right (And.right (by assumption)))))))) | exact qlt (And.right (And.right (And.right (And.right (And.right (And.right (And.right (And.right (by assumption))))))))) | exact qgt (And.right (And.right (And.right (And.right (And.right (And.right (And.right (And.right (by assumption))))))))) | exact qne (And.right (And.right (And.right (And.right (And.right (And.right (And.right (And.right (by assumption))))))))) | exact qen (And.right (And.right (And.right (And.right (And.right (And.right (And.right (And.right (by assumption))))))))) | exact rlt (And.right (And.right (And.right (And.right (And.right (And.right (And.right (And.right (by assumption))))))))) | exact rgt (And.right (And.right (And.right (And.right (And.right (And.right (And.right (And.right (by assumption))))))))) | exact rne (And.right (And.right (And.right (And.right (And.right (And.right (And.right (And.right (by assumption))))))))) | exact ren (And.right (And.right (And.right (And.right (And.right (And.right (And.right (And.right (by assumption))))))))) | exact qlt (And.right (And.right (And.right (And.right (And.right (And.right (And.right (And.right (And.right (by assumption)))))))))) | exact qgt (And.right (And.right (And.right (And.right (And.right (And.right (And.right (And.right (And.right (by assumption)))))))))) | exact qne (And.right (And.right (And.right (And.right (And.right (And.right (And.right (And.right (And.right (by assumption)))))))))) | exact qen (And.right (And.right (And.right (And.right (And.right (And.right (And.right (And.right (And.right (by assumption)))))))))) | exact rlt (And.right (And.right (And.right (And.right (And.right (And.right (And.right (And.right (And.right (by assumption)))))))))) | exact rgt (And.right (And.right (And.right (And.right (And.right (And.right (And.right (And.right (And.right (by assumption)))))))))) | exact rne (And.right (And.right (And.right (And.right (And.right (And.right (And.right (And.right (And.right (by assumption)))))))))) | exact ren (And.right (And.right (And.right (And.right (And.right (And.right (And.right (And.right (And.right (by assumption)))))))))) | exact qlt (And.right (And.right (And.right (And.right (And.right (And.right (And.right (And.right (And.right (And.right (by assumption))))))))))) | exact qgt (And.right (And.right (And.right (And.right (And.right (And.right (And.right (And.right (And.right (And.right (by assumption))))))))))) | exact qne (And.right (And.right (And.right (And.right (And.right (And.right (And.right (And.right (And.right (And.right (by assumption))))))))))) | exact qen (And.right (And.right (And.right (And.right (And.right (And.right (And.right (And.right (And.right (And.right (by assumption))))))))))) | exact rlt (And.right (And.right (And.right (And.right (And.right (And.right (And.right (And.right (And.right (And.right (by assumption))))))))))) | exact rgt (And.right (And.right (And.right (And.right (And.right (And.right (And.right (And.right (And.right (And.right (by assumption))))))))))) | exact rne (And.right (And.right (And.right (And.right (And.right (And.right (And.right (And.right (And.right (And.right (by assumption))))))))))) | exact ren (And.right (And.right (And.right (And.right (And.right (And.right (And.right (And.right (And.right (And.right (by assumption))))))))))) | exact qlt (And.right (And.right (And.right (And.right (And.right (And.right (And.right (And.right (And.right (And.right (And.right (by assumption)))))))))))) | exact qgt (And.right (And.right (And.right (And.right (And.right (And.right (And.right (And.right (And.right (And.right (And.right (by assumption)))))))))))) | exact qne (And.right (And.right (And.right (And.right (And.right (And.right (And.right (And.right (And.right (And.right (And.right (by assumption)))))))))))) | exact qen (And.right (And.right (And.right (And.right (And.right (And.right (And.right (And.right (And.right (And.right (And.right (by assumption)))))))))))) | exact rlt (And.right (And.right (And.right (And.right (And.right (And.right (And.right (And.right (And.right (And.right (And.right (by assumption)))))))))))) | exact rgt (And.right (And.right (And.right (And.right (And.right (And.right (And.right (And.right (And.right (And.right (And.right (by assumption)))))))))))) | exact rne (And.right (And.right (And.right (And.right (And.right (And.right (And.right (And.right (And.right (And.right (And.right (by assumption)))))))))))) | exact ren (And.right (And.right (And.right (And.right (And.right (And.right (And.right (And.right (And.right (And.right (And.right (by assumption)))))))))))) | exact qlt (And.right (And.right (And.right (And.right (And.right (And.right (And.right (And.right (And.right (And.right (And.right (And.right (by assumption))))))))))))) | exact qgt (And.right (And.right (And.right (And.right (And.right (And.right (And.right (And.right (And.right (And.right (And.right (And.right (by assumption))))))))))))) | exact qne (And.right (And.right (And.right (And.right (And.right (And.right (And.right (And.right (And.right (And.right (And.right (And.right (by assumption))))))))))))) | exact qen (And.right (And.right (And.right (And.right (And.right (And.right (And.right (And.right (And.right (And.right (And.right (And.right (by assumption))))))))))))) | exact rlt (And.right (And.right (And.right (And.right (And.right (And.right (And.right (And.right (And.right (And.right (And.right (And.right (by assumption))))))))))))) | exact rgt (And.right (And.right (And.right (And.right (And.right (And.right (And.right (And.right (And.right (And.right (And.right (And.right (by assumption))))))))))))) | exact rne (And.right (And.right (And.right (And.right (And.right (And.right (And.right (And.right (And.right (And.right (And.right (And.right (by assumption))))))))))))) | exact ren (And.right (And.right (And.right (And.right (And.right (And.right (And.right (And.right (And.right (And.right (And.right (And.right (by assumption))))))))))))) | exact qlt (And.right (And.right (And.right (And.right (And.right (And.right (And.right (And.right (And.right (And.right (And.right (And.right (And.right (by assumption)))))))))))))) | exact qgt (And.right (And.right (And.right (And.right (And.right (And.right (And.right (And.right (And.right (And.right (And.right (And.right (And.right (by assumption)))))))))))))) | exact qne (And.right (And.right (And.right (And.right (And.right (And.right (And.right (And.right (And.right (And.right (And.right (And.right (And.right (by assumption)))))))))))))) | exact qen (And.right (And.right (And.right (And.right (And.right (And.right (And.right (And.right (And.right (And.right (And.right (And.right (And.right (by assumption)))))))))))))) | exact rlt (And.right (And.right (And.right (And.right (And.right (And.right (And.right (And.right (And.right (And.right (And.right (And.right (And.right (by assumption)))))))))))))) | exact rgt (And.right (And.right (And.right (And.right (And.right (And.right (And.right (And.right (And.right (And.right (And.right (And.right (And.right (by assumption)))))))))))))) | exact rne (And.right (And.right (And.right (And.right (And.right (And.right (And.right (And.right (And.right (And.right (And.right (And.right (And.right (by assumption)))))))))))))) | exact ren (And.right (And.right (And.right (And.right (And.right (And.right (And.right (And.right (And.right (And.right (And.right (And.right (And.right (by assumption)))))))))))))) | exact qlt (And.right (And.right (And.right (And.right (And.right (And.right (And.right (And.right (And.right (And.right (And.right (And.right (And.right (And.right (by assumption))))))))))))))) | exact qgt (And.right (And.right (And.right (And.right (And.right (And.right (And.right (And.right (And.right (And.right (And.right (And.right (And.right (And.right (by assumption))))))))))))))) | exact qne (And.right (And.right (And.right (And.right (And.right (And.right (And.right (And.right (And.right (And.right (And.right (And.right (And.right (And.right (by assumption))))))))))))))) | exact qen (And.right (And.right (And.right (And.right (And.right (And.right (And.right (And.right (And.right (And.right (And.right (And.right (And.right (And.right (by assumption))))))))))))))) | exact rlt (And.right (And.right (And.right (And.right (And.right (And.right (And.right (And.right (And.right (And.right (And.right (And.right (And.right (And.right (by assumption))))))))))))))) | exact rgt (And.right (And.right (And.right (And.right (And.right (And.right (And.right (And.right (And.right (And.right (And.right (And.right (And.right (And.right (by assumption))))))))))))))) | exact rne (And.right (And.right (And.right (And.right (And.right (And.right (And.right (And.right (And.right (And.right (And.right (And.right (And.right (And.right (by assumption))))))))))))))) | exact ren (And.right (And.right (And.right (And.right (And.right (And.right (And.right (And.right (And.right (And.right (And.right (And.right (And.right (And.right (by assumption))))))))))))))) | exact qlt (And.right (And.right (And.right (And.right (And.right (And.right (And.right (And.right (And.right (And.right (And.right (And.right (And.right (And.right (And.right (by assumption)))))))))))))))) | exact qgt (And.right (And.right (And.right (And.right (And.right (And.right (And.right (And.right (And.right (And.right (And.right (And.right (And.right (And.right (And.right (by assumption)))))))))))))))) | exact qne (And.right (And.right (And.right (And.right (And.right (And.right (And.right (And.right (And.right (And.right (And.right (And.right (And.right (And.right (And.right (by assumption)))))))))))))))) | exact qen (And.right (And.right (And.right (And.right (And.right (And.right (And.right (And.right (And.right (And.right (And.right (And.right (And.right (And.right (And.right (by assumption)))))))))))))))) | exact rlt (And.right (And.right (And.right (And.right (And.right (And.right (And.right (And.right (And.right (And.right (And.right (And.right (And.right (And.right (And.right (by assumption)))))))))))))))) | exact rgt (And.right (And.right (And.right (And.right (And.right (And.right (And.right (And.right (And.right (And.right (And.right (And.right (And.right (And.right (And.right (by assumption)))))))))))))))) | exact rne (And.right (And.right (And.right (And.right (And.right (And.right (And.right (And.right (And.right (And.right (And.right (And.right (And.right (And.right (And.right (by assumption)))))))))))))))) | exact ren (And.right (And.right (And.right (And.right (And.right (And.right (And.right (And.right (And.right (And.right (And.right (And.right (And.right (And.right (And.right (by assumption))))))))))))))))))
  trivial
theorem lay4 : True := by
  k_with "mine texts" => ((try dsimp only [← sx0, ← sx1, ← sx2, ← sx3, ← sx4, ← sx5, ← sx6, ← sx7, ← sx8, ← sx9, ← sx10, ← sx11, ← sx12, ← sx13, ← sx14, ← sx15, ← sx16, ← sx17, ← sx18, ← sx19, ← sx20, ← sx21, ← sx22, ← sx23, ← sx24, ← sx25, ← sx26, ← sx27, ← sx28, ← sx29, ← sx30, ← sx31, ← sx32, ← sx33, ← sx34, ← sx35, ← sx36, ← sx37, ← sx38, ← sx39, ← sx40, ← sx41, ← sx42, ← sx43, ← sx44, ← sx45, ← sx46, ← sx47, ← sx48, ← sx49, ← sx50, ← sx51, ← sx52, ← sx53, ← sx54, ← sx55, ← sx56, ← sx57, ← sx58, ← sx59, ← sx60, ← sx61, ← sx62, ← sx63, ← sx64, ← sx65, ← sx66, ← sx67, ← sx68, ← sx69, ← sx70, ← sx71, ← sx72, ← sx73, ← sx74, ← sx75, ← sx76, ← sx77, ← sx78, ← sx79, ← sx80, ← sx81, ← sx82, ← sx83, ← sx84, ← sx85, ← sx86, ← sx87, ← sx88, ← sx89, ← sx90, ← sx91, ← sx92]))
  k_with "mine drop" => (first | (refine' Drop.head ?a; (case a => k_all)) | (refine' Drop.tail ?a ?b; (case a => k_ne); (case b => walk_at "mine drop")))
  k_with "setAttr ref" => ((k_here; k_dflt (first | (refine' exc_set0 ?k1 ?k2 ?k3 ?k4 ?k5 ?k6 ?k7 ?k8 ?k9 ?_; (case k1 => k_asm); (case k2 => k_asm); (case k3 => k_asm); (case k4 => k_mem); (case k5 => k_is); (case k6 => kernel_rfl); (case k7 => k_is); (case k8 => k_is); (case k9 => intro zqd; k_upd); k_whole; intro zqdp zqhp zqFp zqNp zql1; (try k_lt zql1)) | (refine' exc_set_args ?k1 ?k2 ?k3 ?k4 ?k5 ?k6 ?k7 ?k8 ?k9 ?k10 ?_; (case k1 => k_asm); (case k2 => k_asm); (case k3 => k_asm); (case k4 => first | (refine' InstAt.of_exc ?N ?h1 ?h2; (case N => k_asm); (case h1 => k_mem); (case h2 => k_mem)) | (refine' InstAt.of_exc0 ?N ?h1; (case N => k_asm); (case h1 => k_mem))); (case k5 => exact isTup_of (by k_asm) (by k_mem)); (case k6 => k_is); (case k7 => kernel_rfl); (case k8 => k_is); (case k9 => k_is); (case k10 => k_upd); k_whole; intro zqhp zqFp zqNp) | (refine' exc_set ?k1 ?k2 ?k3 ?k4 ?k5 ?k6 ?k7 ?k8 ?k9 ?k10 ?k11 ?k12 ?_; (case k1 => k_asm); (case k2 => k_asm); (case k3 => k_asm); (case k4 => first | (refine' InstAt.of_exc ?N ?h1 ?h2; (case N => k_asm); (case h1 => k_mem); (case h2 => k_mem)) | (refine' InstAt.of_exc0 ?N ?h1; (case N => k_asm); (case h1 => k_mem))); (case k5 => k_is); (case k6 => kernel_rfl); (case k7 => k_is); (case k8 => k_is); (case k9 => k_get); (case k10 => k_put); (case k11 => k_upd); (case k12 => exact Nat.le_of_ble_eq_true rfl); k_whole; intro zqhp zqFp zqNp))))
  k_with "call builtin:Exception.__init__" => ((k_here; k_dflt (refine' exc_init_call ?k1 ?k2 ?k3 ?k4 ?k5 ?k6 ?_; (case k1 => k_asm); (case k2 => k_asm); (case k3 => k_asm); (case k4 => first | (refine' InstAt.of_exc ?N ?h1 ?h2; (case N => k_asm); (case h1 => k_mem); (case h2 => k_mem)) | (refine' InstAt.of_exc0 ?N ?h1; (case N => k_asm); (case h1 => k_mem))); (case k5 => k_is); (case k6 => intro zqt; k_upd); k_whole; intro zqtp zqhp zqFp zqNp zql1; (try k_lt zql1))))
  k_with "call builtin:repr" => ((k_here; k_dflt (refine' repr_use ?k1 ?k2 ?k3 ?k4 ?k5 ?k6 ?k7 ?_; (case k1 => assumption); (case k2 => k_asm); (case k3 => k_asm); (case k4 => exact rfl); (case k5 => exact rfl); (case k6 => exact Nat.le_of_ble_eq_true rfl); (case k7 => exact Nat.le_of_ble_eq_true rfl); k_whole; intro zqhp zqup zqtkp zqFp zqNp)))
  k_with "BackIn" => ((k_dflt (refine' back_ ?k1 ?k2 ?k3 ?_; (case k1 => k_asm); (case k2 => k_asm); (case k3 => walk_at "mine drop"); k_whole; intro zqFp zqNp; (try dsimp only))))
  k_with "call ref" => ((k_here; k_dflt (refine wpAny_call ?_; refine' enter_in ?k1 ?k2 ?k3 ?k4 ?k5 ?k6 ?k7 ?k8 ?kB ?c2 ?c3 ?c4 ?c5 ?_; (case k1 => k_asm); (case k2 => k_asm); (case k3 => k_asm); (case k4 => exact Top.nolimit (by assumption)); (case k5 => k_is); (case k6 => k_is); (case k7 => exact Nat.le_of_ble_eq_true rfl); (case k8 => first | ((with_reducible show BindsTo _ _ ⟨[_], []⟩ _); first | exact BindsTo.of_eq (binds := [(_, _)]) rfl | exact binds_K (binds := [(_, _)]) (by k_in) rfl (by k_is) rfl rfl rfl) | ((with_reducible show BindsTo _ _ ⟨[_, _], []⟩ _); first | exact BindsTo.of_eq (binds := [(_, _), (_, _)]) rfl | exact binds_K (binds := [(_, _), (_, _)]) (by k_in) rfl (by k_is) rfl rfl rfl) | ((with_reducible show BindsTo _ _ ⟨[_, _, _], []⟩ _); first | exact BindsTo.of_eq (binds := [(_, _), (_, _), (_, _)]) rfl | exact binds_K (binds := [(_, _), (_, _), (_, _)]) (by k_in) rfl (by k_is) rfl rfl rfl) | ((with_reducible show BindsTo _ _ ⟨[_, _, _, _], []⟩ _); first | exact BindsTo.of_eq (binds := [(_, _), (_, _), (_, _), (_, _)]) rfl | exact binds_K (binds := [(_, _), (_, _), (_, _), (_, _)]) (by k_in) rfl (by k_is) rfl rfl rfl) | ((with_reducible show BindsTo _ _ ⟨[_, _, _, _, _], []⟩ _); first | exact BindsTo.of_eq (binds := [(_, _), (_, _), (_, _), (_, _), (_, _)]) rfl | exact binds_K (binds := [(_, _), (_, _), (_, _), (_, _), (_, _)]) (by k_in) rfl (by k_is) rfl rfl rfl)); (case c5 => decide); (case kB => exact locs rfl); (case c2 => exact rfl); (case c3 => exact rfl); (case c4 => exact rfl); k_whole; intro zqoLp zqLp zqhp zqtkp zqFp zqNp zql1 zqn1; (try k_lt zql1); (try (replace zqn1 := allNe_of zqn1; simp only [AllNe, and_true] at zqn1)); (try dsimp only); walk_at "mine texts")))
  k_with "call builtin:str.join" => ((k_here; (with_reducible show wpAny _ _ (call (Value.builtin "str.join") [Value.str _ _, Value.ref _]) _ _ _); k_dflt (refine join_listC (by is_list) (by repeat constructor) (by decide) (by (simp only [List.map_cons, List.map_nil, List.sum_cons, List.sum_nil, List.length_cons, List.length_nil]; omega)) ?_); intro zqtp zqkp))
  k_with "getMethod type:Exception" => ((k_here; refine' method_type ?F ?X ?m (by decide +kernel) ?e ?h ?_; (case F => k_asm); (case X => k_asm); (case m => exact meta_Exception); (case e => k_dflt k_is); (case h => k_handed)))
  k_with "compareOp IsNot" => ((k_here; k_dflt (refine isNot_none (by assumption) ?_)))
  k_with "call builtin:str.format" => ((k_here; k_dflt (refine' line_use ?k1 ?k2 ?k3 ?k4 ?k5 ?k6 ?k7 ?_; (case k1 => assumption); (case k2 => k_asm); (case k3 => k_asm); (case k4 => exact rfl); (case k5 => exact rfl); (case k6 => exact Nat.le_of_ble_eq_true rfl); (case k7 => exact Nat.le_of_ble_eq_true rfl); k_whole; intro zqhp zqup zqtkp zqFp zqNp)))
  k_with "call builtin:str.format" => ((k_here; (with_reducible show wpAny _ _ (call (Value.builtin "str.format") [Value.str _ _, _, _, _, _]) _ _ _); k_dflt (refine' fmt_use ?k1 ?k2 ?k3 ?k4 ?k5 ?_; (case k1 => k_asm); (case k2 => k_asm); (case k3 => exact ⟨rfl, rfl, Nat.le_of_ble_eq_true rfl, Nat.le_of_ble_eq_true rfl⟩); (case k4 => exact args_5 _ _ _ _ _); (case k5 => walk_at "mine fmt")); k_whole; intro zqhp zqup zqtkp zqFp zqNp))
  k_with "pyReprObj" => ((k_here; k_dflt (refine' reprObj_use ?k1 ?k2 ?k3 ?k4 ?k5 ?k6 ?k7 ?_; (case k1 => assumption); (case k2 => k_asm); (case k3 => k_asm); (case k4 => exact rfl); (case k5 => exact rfl); (case k6 => exact Nat.le_of_ble_eq_true rfl); (case k7 => exact Nat.le_of_ble_eq_true rfl); k_whole; intro zqhp zqup zqtkp zqFp zqNp)))
  trivial
def Hid (P : Prop) : Prop := P
theorem hid {P : Prop} (h : P) : Hid P := h
def Stop2 (P : Prop) : Prop := P
theorem stop2 {P : Prop} (h : Stop2 P) : P := h
def Go02 : Prop := True
theorem lay5 : True := by
  k_with "exec For" => ((k_here; (rename Fr _ _ _ _ => lF'); (with_unfolding_all refine' For_turns lF' ?_); k_whole))
  k_with "pyIter ref" => ((refine stop2 ?_))
  k_with "InvPost" => ((refine stop2 ?_))
  k_with "call ref" => (((with_reducible show wpAny _ _ (call (Value.ref 92) _) _ _ _); (refine stop2 ?_)))
  k_with "call ref" => (((with_reducible show wpAny _ _ (call (Value.ref 87) _) _ _ _); (refine stop2 ?_)))
  k_with "call ref" => (((with_reducible show wpAny _ _ (call (Value.ref 59) _ _) _ _ _); (refine stop2 ?_)))
  k_with "call type:tuple" => ((refine stop2 ?_))
  k_with "subscriptTail Name Slice ref ref" => (((with_reducible rename Go02 => hgo); (refine stop2 ?_)))
  k_with "binaryOp Mult ref int" => ((k_here; k_dflt (refine' mul3_2 ?k1 ?k2 ?k3 ?_; (case k1 => k_asm); (case k2 => k_asm); (case k3 => k_mem); k_whole; intro zqDp zqhp zqFp zqNp)))
  k_with "compareOp NotEq ref ref" => ((k_here; k_dflt (refine' txt3_2 ?k1 ?k2 ?k3 ?k4 ?_; (case k1 => k_asm); (case k2 => k_mem); (case k3 => k_mem); (case k4 => ke_room))))
  k_with "compareOp NotEq str str" => ((k_here; k_dflt (refine ne_str_2 ?_)))
  k_with "call type:str" => ((k_here; (with_reducible show wpAny _ _ (call (Value.type "str") [Value.ref _]) _ _ _); k_dflt (refine' str_2 ?k1 ?k2 ?k3 ?k4 ?k5 ?k6 ?k7 ?k8 ?k9 ?ka ?kb ?kc ?_; (case k1 => k_asm); (case k2 => k_asm); (case k3 => assumption); (case k4 => k_asm); (case k5 => k_mem); (case k6 => k_mem); (case k7 => kernel_rfl); (case k8 => kernel_rfl); (case k9 => assumption); (case ka => exact rfl); (case kb => exact Nat.le_of_ble_eq_true rfl); (case kc => exact Nat.le_of_ble_eq_true rfl); k_whole; intro zqhp zqup zqtkp zqFp zqNp)))
  k_with "call builtin:repr" => ((k_here; (with_reducible show wpAny _ _ (call (Value.builtin "repr") [Value.ref _]) _ _ _); k_dflt (refine' repr_2 ?k1 ?k2 ?k3 ?k4 ?k5 ?k6 ?k7 ?k8 ?k9 ?kl ?ka ?kg ?kb ?kc ?_; (case k1 => k_asm); (case k2 => k_asm); (case k3 => assumption); (case k4 => k_asm); (case k5 => k_mem); (case k6 => k_mem); (case k7 => kernel_rfl); (case k8 => kernel_rfl); (case k9 => assumption); (case kl => assumption); (case ka => exact rfl); (case kg => exact rfl); (case kb => exact Nat.le_of_ble_eq_true rfl); (case kc => exact Nat.le_of_ble_eq_true rfl); k_whole; intro zqhp zqup zqtkp zqFp zqNp)))
  k_with "getAttr ref" => ((k_here; k_dflt (first | ((with_reducible show wpAny _ _ (getAttr _ (PySem.Str.ofString "args") _) _ _ _); refine' args_2 (f := 36) ?k1 ?k2 ?k3 ?k4 ?k5 ?k6 ?_; (case k1 => k_asm); (case k2 => k_asm); (case k3 => k_asm); (case k4 => k_mem); (case k5 => k_mem); (case k6 => kernel_rfl)) | (refine' gets_2 (f := 36) ?k1 ?k2 ?k3 ?k4 ?k5 ?k6 ?k7 ?k8 ?k9 ?_; (case k1 => k_asm); (case k2 => k_asm); (case k3 => k_asm); (case k4 => k_mem); (case k5 => k_mem); (case k6 => kernel_rfl); (case k8 => assumption); (case k7 => kernel_rfl); (case k9 => first | exact rfl | assumption)))))
  trivial
theorem law_b : PySem.Challenge.rw_dm0028_02.Holds := by
  w_top off
  refine hz (by
    w_strict (
    k_fill
    intro w s₀ s₁ mg mb G y fa o pm cd doc dV kV ho hd hcd hD hmg hg args vals as L hpre hlay hrd hwl hlo
    have KX : (hz.heap_129 w.params).In _ := InK.keeps _ _ _ (z_facts (fun _ => by kernel_rfl) y).2.1 (Laid.keeps L)
    clear y
    refine Ground.open G ?_
    intro T B D TE TW
    try (refine guard_noD D (by decide +kernel) ?_; clear D)
    clear hmg
    wrow_args hpre hlay hrd hwl hlo
    all_goals (
      refine enter_callH ?_
      w_top on
      refine codeH_mono ?_ (fun _ _ g => GoodW.toG g)
      have K0 := below_caller (Top.heap T)
      have he := Dflts.none hD rfl
      subst he
      refine call_fullH (by decide) ho hd (Top.nolimit T) hcd (BindsTo.of_eq rfl) (locs rfl) fun h₁ F => ?_
      w_binds F
      have N0 := (News.nil : News _ _ _ []).at F
      clear hd
      k_drop
      skip)
    clear hcd hD
    (all_goals try k_fold)
    refine wpH_execs (wpH_any ?_)
    k_steps
    unfold Stop2
    with_reducible rename IntsAre _ (List.take 40 _) => hI
    with_reducible rename Fr _ _ _ _ => F1
    with_reducible rename News _ _ _ _ => N1
    refine stack_2 F1 KX T N1 (News.isList N1 (.head _)) hI (by rw [List.length_take]; omega) rfl rfl (Nat.le_of_ble_eq_true rfl) (Nat.le_of_ble_eq_true rfl) ?_
    intro h2 tk2 sa us ds cn rest F2 N2 hS
    dsimp only
    clear F1 N1
    k_steps
    refine wpH_execs (wpH_any ?_)
    have hgo : Go02 := trivial
    have hus := hS.cnt
    k_steps
    unfold Stop2
    with_reducible rename Fr _ _ _ _ => F3
    with_reducible rename News _ _ _ _ => N3
    refine slice_last F3 N3 (by k_mem) (by omega) ?_
    intro D4 h4 F4 N4 l4
    dsimp only
    clear F3 N3
    k_steps
    unfold Stop2
    with_reducible rename Fr _ _ _ _ => F5
    with_reducible rename News _ _ _ _ => N5
    refine tup_use (vs := us) F5 N5 (by k_mem) (by omega) ?_
    intro D6 h6 F6 N6 l6
    dsimp only
    clear F5 N5
    k_steps
    with_reducible rename Fr _ _ _ _ => F7
    with_reducible rename News _ _ _ _ => N7
    refine kmk_add_lit (zs := us.drop (us.length - 3) ++ [.ref D6]) F7 N7 (News.isList N7 (by k_mem)) (News.isList N7 (by k_mem)) (by simp) ?_ (by rw [sizeLine_eq]; simp; omega)
    intro D8 h8 F8 N8 l8
    dsimp only
    clear F7 N7
    k_steps
    unfold Stop2
    with_reducible rename Fr _ _ _ _ => F9
    with_reducible rename News _ _ _ _ => N9
    refine turns_keep [Str.ofString "value", Str.ofString "own", Str.ofString "due", Str.ofString "err", Str.ofString "named"] rfl (.head _) F9 N9 ?zturn ?zdone
    case zdone =>
      intro m1 h1 tk1 hj F1 N1
      clear F9 N9
      replace F1 := fr_names [(Str.ofString "stack", .ref sa)] (List.forall_mem_cons.mpr ⟨(hj (Str.ofString "stack") (by decide +kernel)).trans (by with_unfolding_all rfl), List.forall_mem_nil _⟩) F1
      dsimp only [kstB] at F1
      clear hj l4 l6 l8 hS hus
      dsimp only
      refine wpH_execs (wpH_Return (wpH_And (wpH_callK (K := hz.heap_129 w.params) ?_)))
      k_steps
      with_reducible rename Fr _ _ _ _ => F2
      with_reducible rename News _ _ _ _ => N2
      refine ref99 w _ [] 0 F2 (fun p hp => by rw [List.mem_singleton.mp hp]; exact N2 _ (.head _)) KX T (by decide +kernel) (by decide +kernel) (by decide +kernel) (by decide +kernel) (Nat.le_of_ble_eq_true rfl) rfl (fun A s Q E X h1 h2 h3 => ref59a w A s Q E X h1 h2 h3) _ _ ?_
      intro h3 tk3 F3
      have N3 : News s₁.heap s₁.heap.objs.size h3 [] := fun p hp => nomatch hp
      clear F2 N2
      refine ⟨rfl, ?_⟩
      dsimp only
      refine wpH_callK (K := hz.heap_129 w.params) ?_
      k_steps
      with_reducible rename Fr _ _ _ _ => F4
      with_reducible rename News _ _ _ _ => N4
      refine ref99 w _ [.ref sa, .ref sa] 0 F4 (fun p hp => by rw [List.mem_singleton.mp hp]; exact N4 _ (.head _)) KX T (by decide +kernel) (by decide +kernel) (by decide +kernel) (by decide +kernel) (Nat.le_of_ble_eq_true rfl) rfl (fun A s Q E X h1 h2 h3 => ref59b w A s _ _ Q E X h1 h2 h3) _ _ ?_
      intro h5 tk5 F5
      have N5 : News s₁.heap s₁.heap.objs.size h5 [] := fun p hp => nomatch hp
      clear F4 N4
      dsimp only
      k_steps
    case zturn =>
      intro v m1 h1 tk1 led hv hj hsub F1 N1
      obtain ⟨d, hr, hd, hl⟩ := vals_2 hS (fun p hp => hsub p (.tail _ (.tail _ (.tail _ (.tail _ (.tail _ (List.mem_append_left _ hp))))))) (hsub _ (.tail _ (.tail _ (.head _)))) v hv
      have hin : handedIn v = true := (hr.at N1).handed
      clear F9 N9
      have h1l : (PyData.tuple [d]).shown.length ≤ 4000 := Nat.le_trans (tup_shown [d]) (by simp [wsum]; omega)
      have hend := hid (And.intro hj hsub)
      clear hj hsub hv l4 l6 l8 hS hus
      dsimp only
      k_steps
      unfold Stop2
      with_reducible rename Fr _ _ _ _ => F2
      with_reducible rename News _ _ _ _ => N2
      refine wr_2 F2 KX T N2 (hr.sub (fun q hq => by repeat (first | exact hq | apply List.mem_cons_of_mem))) (Nat.le_succ_of_le hd) (Nat.le_trans hl (by decide)) rfl rfl (Nat.le_of_ble_eq_true rfl) (Nat.le_of_ble_eq_true rfl) ?_
      intro h3 u3 tk3 F3 N3
      dsimp only
      clear F2 N2
      k_steps
      unfold Stop2
      with_reducible rename Fr _ _ _ _ => F4
      with_reducible rename News _ _ _ _ => N4
      have hml : (Str.ofString "No section: " ++ d.shown).length ≤ 1000000 := by
        rename _ ≤ _ ∧ _ => hcat
        exact Nat.le_trans hcat.2 (Nat.le_trans (Nat.add_le_add (Nat.le_of_ble_eq_true rfl : _ ≤ 100) hl) (by decide))
      refine err_use (fun Q E hQ => conNS w _ v d.shown (((hr.sub (fun q hq => by repeat (first | exact hq | apply List.mem_cons_of_mem))).at N4).rep (Nat.le_trans hl (by decide)) (Nat.le_trans hd (by decide))) Q E (Frag.In.keeps KX F4.keep) (T.keeps F4.keep) hQ) F4 N4 rfl rfl (Nat.le_of_ble_eq_true rfl) (Nat.le_of_ble_eq_true rfl) ?_
      intro h5 tk5 e5 d5 ta5 od5 u5 F5 N5 n51 n52 n53 hm5 hf5
      have hs5 := hf5 _ (.head _)
      dsimp only at hs5
      dsimp only
      clear F4 N4 hf5 n51 n52 n53
      k_steps
      unfold Stop2
      with_reducible rename Fr _ _ _ _ => F6
      with_reducible rename News _ _ _ _ => N6
      refine wr_2 F6 KX T N6 (hr.sub (fun q hq => by repeat (first | exact hq | apply List.mem_cons_of_mem))) (Nat.le_succ_of_le hd) (Nat.le_trans hl (by decide)) rfl rfl (Nat.le_of_ble_eq_true rfl) (Nat.le_of_ble_eq_true rfl) ?_
      intro h6a u6a tk6a F6a N6a
      dsimp only
      clear F6 N6
      k_steps
      unfold Stop2
      with_reducible rename Fr _ _ _ _ => F7
      with_reducible rename News _ _ _ _ => N7
      refine wr_2 F7 KX T N7 (one_2 (ta := ta5) (by k_mem) (hr.sub (fun q hq => by repeat (first | exact hq | apply List.mem_cons_of_mem)))) (one_depth hd) h1l rfl rfl (Nat.le_of_ble_eq_true rfl) (Nat.le_of_ble_eq_true rfl) ?_
      intro h7a u7a tk7a F7a N7a
      rw [one_shown]
      dsimp only
      clear F7 N7
      k_steps
      unfold Stop2
      with_reducible rename Fr _ _ _ _ => F8
      with_reducible rename News _ _ _ _ => N8
      refine err_use (fun Q E hQ => conNSk w _ v d.shown (((hr.sub (fun q hq => by repeat (first | exact hq | apply List.mem_cons_of_mem))).at N8).rep (Nat.le_trans hl (by decide)) (Nat.le_trans hd (by decide))) Q E (Frag.In.keeps KX F8.keep) (T.keeps F8.keep) hQ) F8 N8 rfl rfl (Nat.le_of_ble_eq_true rfl) (Nat.le_of_ble_eq_true rfl) ?_
      intro h9 tk9 e9 d9 ta9 od9 u9 F9 N9 n91 n92 n93 hm9 hf9
      dsimp only
      clear F8 N8 hf9 n91 n92 n93
      k_steps
      unfold Stop2
      with_reducible rename Fr _ _ _ _ => F10
      with_reducible rename News _ _ _ _ => N10
      refine wr_2 F10 KX T N10 (one_2 (ta := ta9) (by k_mem) (hr.sub (fun q hq => by repeat (first | exact hq | apply List.mem_cons_of_mem)))) (one_depth hd) h1l rfl rfl (Nat.le_of_ble_eq_true rfl) (Nat.le_of_ble_eq_true rfl) ?_
      intro h10a u10a tk10a F10a N10a
      rw [one_shown]
      dsimp only
      clear F10 N10
      k_steps
      unfold Stop2
      with_reducible rename Fr _ _ _ _ => F11
      with_reducible rename News _ _ _ _ => N11
      unfold Hid at hend
      obtain ⟨hj, hsub⟩ := hend
      refine inv_end F11 N11 (fun p hp => by repeat (first | exact hp | apply List.mem_cons_of_mem)) fun z hz9 => ?_
      refine Eq.trans ?_ (hj z hz9)
      simp only [List.mem_cons, List.not_mem_nil, or_false, not_or] at hz9
      obtain ⟨y1, y2, y3, y4, y5⟩ := hz9
      simp only [if_neg y1, if_neg y2, if_neg y3, if_neg y4, if_neg y5]
))
end
end Mine
end
theorem PySem.Challenge.cw_dm0028_02_holds : PySem.Challenge.rw_dm0028_02.Holds :=
  Mine.law_b
