import PyProof.Rows.All
import Wide.All
import OpenK.AllK
import Wide.FinOn
import PySem.Challenge.RW_dm0028_06
set_option Elab.async false
section
namespace Mine
section
variable {a b : Nat} {y : Prop}
theorem qlt (h : a < b ∧ y) : a ≠ b := Nat.ne_of_lt (h.1)
theorem rlt (h : a < b) : a ≠ b := Nat.ne_of_lt (h)
theorem qgt (h : b < a ∧ y) : a ≠ b := Nat.ne_of_gt (h.1)
theorem rgt (h : b < a) : a ≠ b := Nat.ne_of_gt (h)
theorem qne (h : a ≠ b ∧ y) : a ≠ b := h.1
theorem rne (h : a ≠ b) : a ≠ b := h
theorem qen (h : b ≠ a ∧ y) : a ≠ b := Ne.symm (h.1)
theorem ren (h : b ≠ a) : a ≠ b := Ne.symm (h)
theorem ns1 : a ≠ a + 1 := Nat.ne_of_lt (Nat.lt_succ_self _)
theorem ns2 : a + 1 ≠ a := Nat.ne_of_gt (Nat.lt_succ_self _)
end
end Mine
end
section
open PySem PySem.W PySem.Calls PyProof.Rows
set_option Elab.async false
set_option maxRecDepth 100000
set_option maxHeartbeats 4000000
namespace Mine
section
variable {prog : Program} {w : World} {A : Around} {R : Result → Shared → Prop} {h : Heap} {g : Array GenState} {d : Drawn} {t : Nat} {os : OsState}
variable {nm q : Str} {C N : Addr} {bs bm : List Value} {hdct : Bool} {sn : List Str} {sub : List Value} {ab : Bool} {col : Option Bool} {dd : Option Addr} {k0 k1 k2 k3 k5 : Option Value}

abbrev excObj (C : Addr) (d : Option Addr) (t : Addr) : Obj := ⟨.ref C, d, .fields #[.ref t, .none, .none, .none, .bool false, .none], #[]⟩
abbrev tupObj (vs : List Value) : Obj := { cls := .type "tuple", data := .seq vs.toArray }

theorem exc_new {rest : List Value} {kw : List (Str × Value)} (hC : h.get? C = some (excClassObj nm q C N bs bm hdct sn sub ab col dd k0 k1 k2 k3 k5 "Exception.__new__"))
    (hcB : (Value.ref C :: bm).contains (.type "Exception") = true) (hcA : (Value.ref C :: bm).contains (.type "AttributeError") = false) (hcN : (Value.ref C :: bm).contains (.type "NameError") = false)
    (hq : R (.ok (.ret (.ref (h.objs.size + 1)))) ⟨(h.push (tupObj rest)).push (excObj C none h.objs.size), g, d, t, os⟩) (hrest : rest.length ≤ sizeLine) :
    codeAny (model prog w) A (.builtin "Exception.__new__" ⟨.ref C :: rest, kw⟩) R ⟨h, g, d, t, os⟩ := by
  have F := PySem.F.excBase_Exception
  have hends := F.ends
  refine codeAny_builtinAt F.entry ?_
  unfold Builtin.«BaseException.__new__»
  refine PySem.wpAt_bind ?_
  show PySem.wpAt _ _ _ (stack >>= _) _ _ _
  refine PySem.wpAt_bind (PySem.wpAt_stack fun p below => PySem.wpAt_of_wpAny ?_)
  wp_walk
  refine PySem.wpAt_of_wpAny ?_
  rw [F.owner]
  repeat (first | with_reducible refine wpAny_madeHere_exc F.canon hC ?_ | with_reducible refine wpAny_loadPart_at hC ?_ | (with_reducible refine wpAny_isSubtype_exc hC ?_; first | rw [hcB] | rw [hcA] | rw [hcN]) | wp_step)
  show R _ _
  rw [Heap.size_push]
  exact hq

theorem exc_check_new {M : Model} {E : Value → Shared → Prop} {rest : List Value} {kw : List (Str × Value)} {Q : Unit → Shared → Prop} (hC : h.get? C = some (excClassObj nm q C N bs bm hdct sn sub ab col dd k0 k1 k2 k3 k5 "Exception.__new__"))
    (hcB : (Value.ref C :: bm).contains (.type "Exception") = true)
    (hq : Q () ⟨h, g, d, t, os⟩) : wpAny M A (checkBuiltinCall "Exception.__new__" ⟨.ref C :: rest, kw⟩) Q E ⟨h, g, d, t, os⟩ := by
  have F := PySem.F.excBase_Exception
  have hstar := F.noStar
  simp only [checkBuiltinCall, F.newKind, F.newSplit, F.newRow]
  repeat (first | refine wpAny_loadPart_at hC ?_ | (refine wpAny_isSubtype_exc hC ?_; rw [hcB]) | refine wpAny_staticBase_exc hC ?_ | refine wpAny_madeBy_exc hC ?_ | simp only [bne_self_eq_false, Bool.false_eq_true, if_false] | wp_step)
  exact hq
end
end Mine
end
section
open PySem PySem.W PySem.Calls PyProof.Rows
set_option Elab.async false
set_option maxRecDepth 100000
set_option maxHeartbeats 4000000
namespace Mine
section
variable {prog : Program} {w : World} {A : Around} {R : Result → Shared → Prop} {h : Heap} {g : Array GenState} {d : Drawn} {t : Nat} {os : OsState}
variable {nm q : Str} {C N : Addr} {bs bm : List Value} {hdct : Bool} {sn : List Str} {sub : List Value} {ab : Bool} {col : Option Bool} {dd : Option Addr} {k0 k1 k2 k3 k5 : Option Value}

theorem exc_make {rest : List Value} {kw : List (Str × Value)} {fI : Addr} (hC : h.get? C = some (excClassObj nm q C N bs bm hdct sn sub ab col dd k0 k1 k2 k3 k5 "Exception.__new__"))
    (hcB : (Value.ref C :: bm).contains (.type "Exception") = true) (hcA : (Value.ref C :: bm).contains (.type "AttributeError") = false) (hcN : (Value.ref C :: bm).contains (.type "NameError") = false)
    (call : Looks (model prog w) h (specialOf (.ref C) "__call__") (some (.builtin "type.__call__"))) (typ : Looks (model prog w) h (isInstance (.ref C) (.type "type")) true)
    (hi : Looks (model prog w) h (typeLookup (.ref C) "__init__") (some (.ref fI))) (hb : ∀ self, Looks (model prog w) h (bindSpecial (.ref fI) self) (.ref fI, [self])) (hrest : rest.length ≤ sizeLine)
    (hq : codeAny (model prog w) (A.under (.builtin "type.__call__" ⟨.ref C :: rest, kw⟩)) (.call (.ref fI) ⟨.ref (h.objs.size + 1) :: rest, kw⟩) (InitBack (h.objs.size + 1) R) ⟨(h.push (tupObj rest)).push (excObj C none h.objs.size), g, d, t, os⟩) :
    codeAny (model prog w) A (.call (.ref C) ⟨rest, kw⟩) R ⟨h, g, d, t, os⟩ := by
  refine codeAny_of_tree ?_
  show wpAny _ _ (callAny (.ref C) _) _ _ _
  refine nd_load hC ?_
  show wpAny _ _ (callAny.viaDunder (.ref C) _) _ _ _
  unfold callAny.viaDunder
  refine wpAny_bind (call.at ?_)
  dsimp only
  rw [tc_bind]
  refine wpAny_bind (wpAny_pure (wpAny_bind (wpAny_pure ?_)))
  refine wpAny_pure (a := Fin.again (.call (.builtin "type.__call__") ⟨.ref C :: rest, kw⟩)) (And.intro rfl ?_)
  refine codeAny_call_builtin_at (Code.quiet_builtin _ (by decide +kernel)) entry_typeCall (check_slot tc_kind tc_split typ (tc_args _ _ _) ?_)
  unfold Builtin.«type.__call__»
  have hm : Looks (model prog w) h (mroOf (.ref C)) (.ref C :: bm) := ((Looks.ld (part := none) hC).andThen .now).andThen .now
  have made : Looks (model prog w) h (Bind.madeBy (.ref C)) (some "Exception.__new__") := by
    intro A Q E s k q
    obtain ⟨hh, g, d, t, os⟩ := s
    exact wpAny_madeBy_exc (k _ _ hC) q
  repeat (first | with_reducible refine wpAny_call ?_ | lk)
  refine codeAny_call_builtin_code (Code.quiet_builtin _ PySem.F.excBase_Exception.quiet) (exc_check_new hC hcB ?_)
  refine exc_new hC hcB hcA hcN ?_ hrest
  have k : ∀ b o, h.get? b = some o → ((h.push (tupObj rest)).push (excObj C none h.objs.size)).get? b = some o := fun b o e => Heap.get?_push_of_some _ (Heap.get?_push_of_some _ e)
  have hx : ((h.push (tupObj rest)).push (excObj C none h.objs.size)).get? (h.objs.size + 1) = some (excObj C none h.objs.size) := by heap_get
  have t1 : Looks (model prog w) ((h.push (tupObj rest)).push (excObj C none h.objs.size)) (typeOf (.ref (h.objs.size + 1))) (.ref C) := (Looks.ld hx).andThen .now
  have s1 : Looks (model prog w) ((h.push (tupObj rest)).push (excObj C none h.objs.size)) (isSubtype (.ref C) (.ref C)) true := by
    intro A Q E s k' q
    obtain ⟨hh, g, d, t, os⟩ := s
    exact wpAny_isSubtype_exc (k' _ _ (k _ _ hC)) (by rw [show (Value.ref C :: bm).contains (.ref C) = true from by simp]; exact q)
  have i1 := hi.keeps k
  have b1 := (hb (.ref (h.objs.size + 1))).keeps k
  unfold isInstance callSpecial? specialOf
  repeat (first | with_reducible refine wpAny_call ?_ | lk)
  refine codeAny_mono hq fun r s' z => ?_
  rcases r with e | (v | _ | _ | _) <;> first | exact z | exact z.elim | skip
  obtain ⟨rfl, z⟩ := z
  exact wpAny_pure (wpAny_pure z)
end
end Mine
end
section
open PySem PySem.W PySem.Calls PyProof.Rows PySem.Builtin PySem.Builtin.ObjectAttr
set_option Elab.async false
set_option maxRecDepth 100000
set_option maxHeartbeats 4000000
namespace Mine
def excTail : List Value → Bool
  | [.type a, .type b, .type c] => a == "Exception" && b == "BaseException" && c == "object"
  | .ref _ :: r => excTail r
  | _ => false
theorem refuse_base (self : Value) : refuseLoop self "__setattr__" [.type "Exception", .type "BaseException", .type "object"] = pure () := by kernel_rfl
theorem excTail_cases {l : List Value} (e : excTail l = true) : (∃ a b c, l = [.type a, .type b, .type c] ∧ a = "Exception" ∧ b = "BaseException" ∧ c = "object") ∨ (∃ a r, l = .ref a :: r ∧ excTail r = true) := by
  unfold excTail at e
  split at e
  · rename_i a b c
    simp only [Bool.and_eq_true, beq_iff_eq] at e
    exact .inl ⟨a, b, c, rfl, e.1.1, e.1.2, e.2⟩
  · rename_i a r; exact .inr ⟨a, r, rfl, e⟩
  · cases e
theorem refuse_exc (self : Value) : ∀ {l : List Value}, excTail l = true → refuseLoop self "__setattr__" l = pure ()
  | l, e => by
    rcases excTail_cases e with ⟨a, b, c, rfl, rfl, rfl, rfl⟩ | ⟨a, r, rfl, e'⟩
    · exact refuse_base self
    · rw [refuseLoop_ref]; exact refuse_exc self e'
termination_by l => l.length
theorem excTail_obj : ∀ {l : List Value}, excTail l = true → l.contains (.type "object") = true
  | l, e => by
    rcases excTail_cases e with ⟨a, b, c, rfl, rfl, rfl, rfl⟩ | ⟨a, r, rfl, e'⟩
    · decide
    · rw [List.contains_cons, excTail_obj e', Bool.or_true]
termination_by l => l.length
def excOver (K : Frag) (C : Addr) : Bool := (clsIn K C).any fun cd => excTail cd.mro

section
variable {prog : Program} {w : World} {A : Around} {K : Frag} {C x : Addr} {s : Shared} {h₀ : Heap} {L : Addr} {m : Str → Option Value} {news : List (Addr × Obj)} {R : Result → Shared → Prop}
theorem exc_osa_open {ox : Obj} {od : Option Obj} {name : Str} {tk : Tok} {v : Value} {r : Option Value} (X : K.In s.heap) (I : InstAt s.heap x ox C od) (hp : excOver K C = true) (ht : takerIn K C name = some r)
    (h : ∀ b, wpAny (model prog w) A.in1 (match r with | some a => setByDescriptor a (.ref x) v | none => storeInOwnDict (.ref x) (.ref C) (.str name tk) name v b)
      (fun fin s' => match fin with | .done f => R (.ok f) s' | .again c' => c'.quiet = true ∧ codeAny (model prog w) A c' R s') (fun e s' => R (.error e) s') s) :
    codeAny (model prog w) A (.call (.builtin "object.__setattr__") ⟨[.ref x, .str name tk, v], []⟩) R s := by
  have SF := PySem.F.store_object
  obtain ⟨cd, hc, ho⟩ := any_some hp
  have ne : cd.mro.isEmpty = false := by cases q : cd.mro with | nil => rw [q] at ho; cases ho | cons _ _ => rfl
  have sub : Looks (model prog w) s.heap (isInstance (.ref x) (.type "object")) true := I.type.andThen (looks_mroIn X (by unfold mroIn; rw [hc, Option.bind_some, if_neg (by rw [ne]; decide), excTail_obj ho]))
  refine codeAny_call_builtin SF.slot.plain SF.entry (@check_slot (model prog w) _ _ s "object.__setattr__" "object" "__setattr__" (.ref x) [.str name tk, v] [] _ SF.kind SF.split sub (SF.args (.ref x) (.str name tk) v) ?_)
  obtain ⟨attr, ha, hr⟩ := Option.bind_eq_some_iff.mp ht
  have hm : Looks (model prog w) s.heap (mroOf (.ref C)) cd.mro := (looks_clsIn X hc).andThen .now
  have L3 : Looks (model prog w) s.heap (storeTaker? attr) r := by
    cases attr with
    | none => cases hr; exact .now
    | some a =>
      obtain ⟨b, hb, rfl⟩ := Option.map_eq_some_iff.mp hr
      refine (looks_takesIn X hb).andThen ?_
      cases b <;> exact .now
  rw [osa_eq, refuse_eq]
  refine wpAny_bind (wpAny_bind (I.type.here (wpAny_bind (hm.here ?_))))
  rw [refuse_exc _ ho]
  refine wpAny_pure (wpAny_bind (I.type.here (wpAny_bind ((looks_findIn X ha).here (wpAny_bind (L3.here ?_))))))
  exact h _
end
end Mine
end
section
open PySem PySem.W PySem.Calls PyProof.Rows PySem.Builtin PySem.Builtin.ObjectAttr
set_option Elab.async false
set_option maxRecDepth 100000
set_option maxHeartbeats 4000000
namespace Mine
section
variable {prog : Program} {w : World} {A : Around} {E : Value → Shared → Prop} {K : Frag} {C x dx ta : Addr} {s : Shared} {h₀ : Heap} {L : Addr} {m : Str → Option Value} {news news' : List (Addr × Obj)} {R : Result → Shared → Prop}
theorem InstAt.of_exc {h : Heap} {od : Obj} (N : News h₀ L h news) (h1 : (x, excObj C (some dx) ta) ∈ news) (h2 : (dx, od) ∈ news) : InstAt h x (excObj C (some dx) ta) C (some od) := ⟨(N _ h1).1, rfl, rfl, (N _ h2).1⟩
theorem InstAt.of_exc0 {h : Heap} (N : News h₀ L h news) (h1 : (x, excObj C none ta) ∈ news) : InstAt h x (excObj C none ta) C none := ⟨(N _ h1).1, rfl, rfl, trivial⟩

/-- the store into an own dict that stands -/
theorem exc_osa_dict {od od' : Obj} {name : Str} {tk : Tok} {v : Value} {pre post : List (Addr × Obj)} {es : List DictEntry} {n : Nat} (F : Fr h₀ L s.heap m) (N : News h₀ L s.heap (pre ++ (dx, od) :: post)) (X : K.In s.heap)
    (I : InstAt s.heap x (excObj C (some dx) ta) C (some od)) (hp : excOver K C = true) (ht : takerIn K C name = some none) (hh : hasDictIn K C = true)
    (hl : (lookIn name od).isSome = true) (h1 : ∀ p ∈ pre, p.1 ≠ dx) (h2 : ∀ p ∈ post, p.1 ≠ dx)
    (e : Obj.putName name (PyData.keyHash w.params name) (.str name s.toks) v od = od') (e' : od'.data = .dict es.toArray n) (hz : es.length ≤ 1000)
    (h : ∀ h', Fr h₀ L h' m → News h₀ L h' (pre ++ (dx, od') :: post) → R (.ok (.ret .none)) { s with heap := h', toks := s.toks + 1 }) :
    codeAny (model prog w) A (.call (.builtin "object.__setattr__") ⟨[.ref x, .str name tk, v], []⟩) R s := by
  refine exc_osa_open X I hp ht fun b => ?_
  obtain ⟨cd, hc, hd'⟩ := any_some hh
  obtain ⟨U1, U2⟩ := news_upd (f := Obj.putName name (PyData.keyHash w.params name) (.str name s.toks) v) F N h1 h2 e (by obtain ⟨_, _, dd, _⟩ := od'; cases e'; rfl)
  have D := (N (dx, od) (by simp)).1
  have D' := (U2 (dx, od') (by simp)).1
  obtain ⟨hx, -, -, -⟩ := I
  refine wpAny_bind (wpAny_pure (wpAny_bind (wpAny_bind (wpAny_loadPart hx (wpAny_bind ((looks_clsIn X hc).here ?_))))))
  rw [hd']
  refine wpAny_pure (a := some dx) (wpAny_bind (wpAny_pure (wpAny_bind ?_)))
  unfold nsSet
  refine wpAny_bind (wpAny_bind (wpAny_askSetting (wpAny_pure (wpAny_bind (wpAny_mkText (wpAny_bind (wpAny_loadPart D ?_)))))))
  unfold lookIn at hl
  split at hl
  · rename_i es₀ n₀ q
    rw [q]
    dsimp only
    have c : (!es₀.any (·.key.isStr name) && es₀.any (·.refKey)) = false := by
      rw [← Array.any_toList, ← Array.any_toList]
      split at hl
      · rename_i en he
        rw [List.any_eq_true.mpr ⟨en, List.mem_of_find?_eq_some he, List.find?_some he⟩]; rfl
      · split at hl
        · cases hl
        · rename_i z; rw [Bool.not_eq_true] at z; rw [z, Bool.and_false]
    rw [aRefKeyMayBeTheName_at, c]
    refine wpAny_updatePart D ?_
    refine wpAny_bind (wpAny_lookBehind D' (by rw [e']; exact pastItsLine_dict (by rw [List.size_toArray, sizeLine_eq]; omega)) ?_)
    exact wpAny_pure (h _ U1 U2)
  · cases hl

theorem exc_set {es es' : List DictEntry} {n n' : Nat} {name : Str} {v : Value} {Q : Unit → Shared → Prop} (F : Fr h₀ L s.heap m) (X₀ : K.In h₀) (N : News h₀ L s.heap news) (I : InstAt s.heap x (excObj C (some dx) ta) C (some (dictOf es n)))
    (hs : findIn K (.ref C) "__setattr__" = some (some (.builtin "object.__setattr__"))) (hp : excOver K C = true) (ht : takerIn K C name = some none) (hh : hasDictIn K C = true) (hl : (getL name es).isSome = true)
    (e : (putL name (PyData.keyHash w.params name) (.str name (s.toks + 1)) v es, putN name es n) = (es', n')) (U : Upd dx (dictOf es n) (dictOf es' n') news news') (hz : es'.length ≤ 1000)
    (h : ∀ h', Fr h₀ L h' m → News h₀ L h' news' → Q () { s with heap := h', toks := s.toks + 2 }) :
    wpAny (model prog w) A (setAttr (.ref x) name v) Q E s := by
  obtain ⟨pre, post, rfl, rfl, a, b⟩ := U.split
  obtain ⟨e1, e2⟩ := Prod.mk.inj e
  exact set_plain (X₀.keeps F.keep) I hs (exc_osa_dict (s := { s with toks := s.toks + 1 }) F N (X₀.keeps F.keep) I hp ht hh hl a b (by rw [putName_dict, e1, e2]) rfl hz fun h' F' N' => h h' F' N')

/-- the first store makes the dict -/
theorem exc_set0 {news' : Addr → List (Addr × Obj)} {name : Str} {v : Value} {Q : Unit → Shared → Prop} (F : Fr h₀ L s.heap m) (X₀ : K.In h₀) (N : News h₀ L s.heap news) (hx : (x, excObj C none ta) ∈ news)
    (hs : findIn K (.ref C) "__setattr__" = some (some (.builtin "object.__setattr__"))) (hp : excOver K C = true) (ht : takerIn K C name = some none) (hh : hasDictIn K C = true)
    (U : ∀ d, Upd x (excObj C none ta) (excObj C (some d) ta) news (news' d))
    (h : ∀ d h', Fr h₀ L h' m → News h₀ L h' ((d, dictOf [⟨PyData.keyHash w.params name, .str name (s.toks + 1), v⟩] 1) :: news' d) → (∀ p ∈ news, p.1 < d) → Q () { s with heap := h', toks := s.toks + 2 }) :
    wpAny (model prog w) A (setAttr (.ref x) name v) Q E s := by
  have I := InstAt.of_exc0 N hx
  have X := X₀.keeps F.keep
  refine set_plain X I hs (exc_osa_open (s := { s with toks := s.toks + 1 }) X I hp ht fun b => ?_)
  obtain ⟨pre, post, e1, e2, a, b⟩ := (U s.heap.objs.size).split
  obtain ⟨cd, hc, hd'⟩ := any_some hh
  have hxx := I.at_
  refine wpAny_bind (wpAny_pure (wpAny_bind (wpAny_bind (wpAny_loadPart hxx (wpAny_bind (looks_clsIn X hc _ _ _ _ (fun _ _ e => e) ?_))))))
  rw [hd']
  have F1 := F.push emptyDict
  have N1 : News h₀ L (s.heap.push emptyDict) ((s.heap.objs.size, emptyDict) :: news) := N.push F emptyDict
  rw [e1] at N1
  have hlt : ∀ p ∈ news, p.1 < s.heap.objs.size := fun p hp => Heap.lt_size (N p hp).1
  have hxn : s.heap.objs.size ≠ x := fun z => absurd (hlt _ hx) (by rw [← z]; exact Nat.lt_irrefl _)
  obtain ⟨U1, U2⟩ := news_upd (pre := (s.heap.objs.size, emptyDict) :: pre) (f := fun o => { o with dict := some s.heap.objs.size }) F1 N1 (fun p hp => by rcases List.mem_cons.mp hp with rfl | hp; exact hxn; exact a p hp) b (o' := excObj C (some s.heap.objs.size) ta) rfl rfl
  refine wpAny_bind (wpAny_alloc (wpAny_bind (wpAny_update (Heap.get?_push_of_some _ hxx) ?_)))
  refine wpAny_pure (a := some s.heap.objs.size) (wpAny_bind (wpAny_pure (wpAny_bind ?_)))
  have D := (U2 (s.heap.objs.size, emptyDict) (by simp)).1
  have he : Obj.putName name (PyData.keyHash w.params name) (.str name (s.toks + 1)) v (dictOf [] 0) = dictOf [⟨PyData.keyHash w.params name, .str name (s.toks + 1), v⟩] 1 := by rw [putName_dict]; rfl
  obtain ⟨V1, V2⟩ := news_upd (pre := []) (d := s.heap.objs.size) (o := dictOf [] 0) (f := Obj.putName name (PyData.keyHash w.params name) (.str name (s.toks + 1)) v) U1 U2 (fun _ hp => nomatch hp)
    (fun p hp => by
      rcases List.mem_append.mp hp with hp | hp
      · exact Nat.ne_of_lt (hlt p (by rw [e1]; exact List.mem_append.mpr (.inl hp)))
      · rcases List.mem_cons.mp hp with rfl | hp
        · exact Ne.symm hxn
        · exact Nat.ne_of_lt (hlt p (by rw [e1]; exact List.mem_append.mpr (.inr (.tail _ hp))))) he rfl
  have D' := (V2 (s.heap.objs.size, dictOf [⟨PyData.keyHash w.params name, .str name (s.toks + 1), v⟩] 1) (.head _)).1
  unfold nsSet
  refine wpAny_bind (wpAny_bind (wpAny_askSetting (wpAny_pure (wpAny_bind (wpAny_mkText (wpAny_bind (wpAny_loadPart D ?_)))))))
  dsimp only
  have c : (!(#[] : Array DictEntry).any (·.key.isStr name) && (#[] : Array DictEntry).any (·.refKey)) = false := by simp
  rw [aRefKeyMayBeTheName_at, c]
  refine wpAny_updatePart D ?_
  refine wpAny_bind (wpAny_lookBehind D' (pastItsLine_dict (by rw [List.size_toArray, sizeLine_eq]; simp)) ?_)
  refine wpAny_pure (h s.heap.objs.size _ V1 ?_ hlt)
  rw [e2]
  exact V2
end
end Mine
end
section
open PySem PySem.W PySem.Calls PyProof.Rows PySem.Builtin PySem.Builtin.ObjectAttr PySem.Builtin.Getset_descriptor
set_option Elab.async false
set_option maxRecDepth 100000
set_option maxHeartbeats 4000000
namespace Mine
theorem entry_gss : entryFor table "getset_descriptor.__set__" = some Builtin.«getset_descriptor.__set__» := entryFor_of_tree (by kernel_rfl)
theorem entry_ba_set : entryFor table "BaseException.args#set" = some Builtin.«BaseException.args#set» := entryFor_of_tree (by kernel_rfl)
theorem args_gss (a b c : Value) : argsOk "getset_descriptor.__set__" ⟨[a, b, c], []⟩ := by unfold argsOk; kernel_rfl
theorem owner_bargs : descrOwnerAndName "BaseException.args" = ("BaseException", "args") := by unfold descrOwnerAndName; rw [show "BaseException.args".cutAt '.' = ["BaseException", "args"] from by first | rfl | decide +kernel]; decide +kernel
section
variable {prog : Program} {w : World} {A : Around} {E : Value → Shared → Prop} {K : Frag} {C x dx ta tv : Addr} {s : Shared} {h₀ : Heap} {L : Addr} {m : Str → Option Value} {news news' : List (Addr × Obj)} {R : Result → Shared → Prop} {d : Option Addr} {news'' : Addr → List (Addr × Obj)}

theorem exc_put {Q : Unit → Shared → Prop} (F : Fr h₀ L s.heap m) (N : News h₀ L s.heap news) (U : Upd x (excObj C d ta) (excObj C d tv) news news')
    (h : ∀ h', Fr h₀ L h' m → News h₀ L h' news' → Q () { s with heap := h' }) : wpAny (model prog w) A (Builtin.BaseException.bexcPut (.ref x) 0 (.ref tv)) Q E s := by
  obtain ⟨pre, post, rfl, rfl, a, b⟩ := U.split
  obtain ⟨U1, U2⟩ := news_upd (f := Obj.mapFields (·.setIfInBounds 0 (.ref tv))) F N a b (o' := excObj C d tv) rfl rfl
  have hx : s.heap.get? x = some (excObj C d ta) := (N (x, excObj C d ta) (by simp)).1
  unfold Builtin.BaseException.bexcPut
  refine wpAny_bind (wpAny_field hx rfl (x := .ref ta) rfl (wpAny_bind (wpAny_setField hx rfl (show 0 < 6 by decide) ?_)))
  exact wpAny_letGo (h _ U1 U2)

theorem exc_set_args {its : Array Value} {od : Option Obj} {Q : Unit → Shared → Prop} (F : Fr h₀ L s.heap m) (X₀ : K.In h₀) (N : News h₀ L s.heap news) (I : InstAt s.heap x (excObj C d ta) C od) (ht : s.heap.IsTuple tv its)
    (hs : findIn K (.ref C) "__setattr__" = some (some (.builtin "object.__setattr__"))) (hp : excOver K C = true) (hk : takerIn K C "args" = some (some (.builtin "BaseException.args"))) (hB : subIn K (.ref C) (.type "BaseException") = some true)
    (U : Upd x (excObj C d ta) (excObj C d tv) news news')
    (h : ∀ h', Fr h₀ L h' m → News h₀ L h' news' → Q () { s with heap := h', toks := s.toks + 1 }) : wpAny (model prog w) A (setAttr (.ref x) "args" (.ref tv)) Q E s := by
  have X := X₀.keeps F.keep
  refine set_plain X I hs (exc_osa_open (s := { s with toks := s.toks + 1 }) X I hp hk fun b => ?_)
  have S := PySem.F.slot_gs_set
  have hty : typeOf (.builtin "BaseException.args") = pure (.type "getset_descriptor") := PySem.F.typeOf_bexc_args
  refine wpAny_bind (wpAny_rule (wpAny_bind (wpAny_holding (wpAny_bind (wpAny_bind ((Looks.of_pure hty) _ _ _ _ (fun _ _ e => e) ((Looks.of_pure S.lookup) _ _ _ _ (fun _ _ e => e) (wpAny_holding ?_))))))))
  rw [S.bind]
  refine wpAny_bind (wpAny_pure (wpAny_bind (wpAny_call ?_)))
  have hT : ({ s with toks := s.toks + 1 } : Shared).TypeIs (.builtin "BaseException.args") "getset_descriptor" := PySem.F.typeOf_bexc_args
  refine codeAny_call_builtin S.plain entry_gss (S.check _ _ _ _ _ _ _ _ hT (args_gss _ _ _) ?_)
  show wpAny _ _ (descrStoreThrough "getset" (.builtin "BaseException.args") (.ref x) (some (.ref tv))) _ _ _
  unfold descrStoreThrough descrCheckInstance descrNameAndClass isInstance
  simp only [owner_bargs]
  refine wpAny_bind (wpAny_bind (wpAny_pure (wpAny_bind (wpAny_bind (I.type _ _ _ _ (fun _ _ e => e) (looks_subIn X hB _ _ _ _ (fun _ _ e => e) ?_))))))
  refine wpAny_pure (wpAny_bind (wpAny_pure ?_))
  refine wpAny_pure (And.intro (Code.quiet_builtin _ (by decide +kernel)) (codeAny_builtin entry_ba_set ?_))
  unfold Builtin.«BaseException.args#set»
  refine wpAny_bind (call_tuple_same (s := { s with toks := s.toks + 1 }) ht (wpAny_bind (exc_put (s := { s with toks := s.toks + 1 }) F N U fun h' F' N' => ?_)))
  exact wpAny_pure (wpAny_pure (wpAny_pure (h h' F' N')))

theorem exc_init_call {v : Value} {od : Option Obj} {Q : Value → Shared → Prop} (F : Fr h₀ L s.heap m) (X₀ : K.In h₀) (N : News h₀ L s.heap news) (I : InstAt s.heap x (excObj C d ta) C od)
    (hE : subIn K (.ref C) (.type "Exception") = some true) 
    (U : ∀ t, Upd x (excObj C d ta) (excObj C d t) news (news'' t))
    (h : ∀ t h', Fr h₀ L h' m → News h₀ L h' ((t, tupObj [v]) :: news'' t) → (∀ p ∈ news, p.1 < t) → Q .none { s with heap := h' }) : wpAny (model prog w) A (call (.builtin "Exception.__init__") [.ref x, v]) Q E s := by
  have X := X₀.keeps F.keep
  have FE := PySem.F.excBase_Exception
  obtain ⟨hh, g, dr, t, os⟩ := s
  refine wpAny_call (codeAny_call_builtin FE.init.plain FE.initEntry ?_)
  have hshort := FE.noStar
  have t1 := I.type (M := model prog w)
  have s1 := looks_subIn (M := model prog w) X hE
  obtain ⟨cd, hcd⟩ : ∃ cd, clsIn K C = some cd := by
    unfold subIn mroIn at hE
    cases q : clsIn K C with
    | none => simp only [q] at hE; cases hE
    | some cd => exact ⟨cd, rfl⟩
  have c1 := looks_clsIn (M := model prog w) X hcd
  simp only [checkBuiltinCall, FE.initKind, FE.initSplit, FE.initRow]
  unfold isInstance
  dsimp only at t1 s1 c1
  repeat lk
  have F1 := F.push (tupObj [v])
  have N1 : News h₀ L (hh.push (tupObj [v])) ((hh.objs.size, tupObj [v]) :: news) := N.push F (tupObj [v])
  have hlt : ∀ p ∈ news, p.1 < hh.objs.size := fun p hp => Heap.lt_size (N p hp).1
  obtain ⟨pre, post, e1, e2, a, b⟩ := (U hh.objs.size).split
  have hx : (hh.push (tupObj [v])).get? x = some (excObj C d ta) := Heap.get?_push_of_some _ I.at_
  have hxn : hh.objs.size ≠ x := fun z => absurd (Heap.lt_size I.at_) (by rw [← z]; exact Nat.lt_irrefl _)
  rw [e1] at N1
  obtain ⟨U1, U2⟩ := news_upd (pre := (hh.objs.size, tupObj [v]) :: pre) (f := Obj.mapFields (·.setIfInBounds 0 (.ref hh.objs.size))) F1 N1 (fun p hp => by rcases List.mem_cons.mp hp with rfl | hp; exact hxn; exact a p hp) b (o' := excObj C d hh.objs.size) rfl rfl
  refine nd_load hx (wpAny_pure (wpAny_pure (wpAny_pure (a := Value.ref ta) (wpAny_bind (wpAny_setField hx rfl (show 0 < 6 by decide) (wpAny_letGo (wpAny_pure ?_)))))))
  refine h hh.objs.size _ U1 ?_ hlt
  rw [e2]
  exact U2
end
end Mine
end
section
open PySem PySem.W PySem.Calls PyProof.Rows PySem.Builtin PySem.Builtin.ObjectAttr PySem.Builtin.Getset_descriptor
set_option Elab.async false
set_option maxRecDepth 100000
set_option maxHeartbeats 4000000
namespace Mine
theorem bga_kind : builtinKind "BaseException.__getattribute__" = some .slot := by decide +kernel
theorem bga_split : splitId "BaseException.__getattribute__" = some ("BaseException", "__getattribute__") := by decide +kernel
theorem bga_plain : plainId "BaseException.__getattribute__" = true := by decide +kernel
theorem bga_bind (self : Value) : bindSpecial (.builtin "BaseException.__getattribute__") self = pure (.builtin "BaseException.__getattribute__", [self]) := PySem.F.excAttr_ValueError.ga.bind self
def excGet (K : Frag) (C : Addr) : Bool := findIn K (.ref C) "__getattribute__" == some (some (.builtin "BaseException.__getattribute__")) && findIn K (.ref C) "__getattr__" == some none && subIn K (.ref C) (.type "BaseException") == some true
section
variable {prog : Program} {w : World} {A : Around} {E : Value → Shared → Prop} {s : Shared} {K : Frag} {x C ta : Addr} {ox : Obj} {od : Option Obj} {name : Str} {expr : Bool} {Q : Value → Shared → Prop}
theorem exc_get_open {r : Found} (X : K.In s.heap) (I : InstAt s.heap x ox C od) (hg : excGet K C = true) (hf : findObj K C od name = some r)
    (h : codeAny (model prog w) A (.call (.builtin "BaseException.__getattribute__") ⟨[.ref x, .str name s.toks], []⟩) (fun r s' => match r with | .ok (.ret v) => wpAny (model prog w) A (handedOut v) Q E s' | _ => False) { s with toks := s.toks + 1 }) :
    wpAny (model prog w) A (getAttr (.ref x) name expr) Q E s := by
  simp only [excGet, Bool.and_eq_true, beq_iff_eq] at hg
  obtain ⟨⟨h1, h2⟩, h3⟩ := hg
  obtain ⟨hh, g, d, t, os⟩ := s
  have L0 := I.type (M := model prog w)
  have L1 := looks_findIn (M := model prog w) X h1
  have L2 := looks_findIn (M := model prog w) X h2
  unfold getAttr getAttrBy
  refine wpAny_bind (wpAny_mkText (wpAny_holding (wpAny_bind (L0.at (wpAny_bind (L1.at ?_))))))
  dsimp only
  rw [show (onTheHeap (Value.ref C) && Value.builtin "BaseException.__getattribute__" == Value.builtin "object.__getattribute__") = false from by rw [show (Value.builtin "BaseException.__getattribute__" == Value.builtin "object.__getattribute__") = false from by decide +kernel, Bool.and_false], if_neg (by decide)]
  unfold getAttrByItsOwn
  refine wpAny_bind (L2.at (wpAny_bind (wpAny_attempt (wpAny_holding ?_))))
  unfold callGetattribute
  rw [show (expr && onTheHeap (Value.builtin "BaseException.__getattribute__")) = false from Bool.and_false _, if_neg (by decide)]
  unfold boundAndCalled
  rw [bga_bind]
  refine wpAny_bind (wpAny_pure (wpAny_call (codeAny_mono h fun r s' z => ?_)))
  rcases r with e | (v | _ | _ | _) <;> first | exact z | exact z.elim

theorem exc_get {v : Value} (X : K.In s.heap) (I : InstAt s.heap x ox C od) (hg : excGet K C = true) (hf : findObj K C od name = some (.value v)) (hv : handedIn v = true)
    (h : Q v { s with toks := s.toks + 1 }) : wpAny (model prog w) A (getAttr (.ref x) name expr) Q E s := by
  refine exc_get_open X I hg hf ?_
  simp only [excGet, Bool.and_eq_true, beq_iff_eq] at hg
  obtain ⟨⟨h1, h2⟩, h3⟩ := hg
  obtain ⟨hh, g, d, t, os⟩ := s
  have L0 := I.type (M := model prog w)
  have L3 := looks_subIn (M := model prog w) X h3
  have L1 := looks_find (M := model prog w) X I hf
  refine codeAny_call_builtin bga_plain PySem.F.entry_bexc_ga (@check_slot (model prog w) _ _ ⟨hh, g, d, t + 1, os⟩ "BaseException.__getattribute__" "BaseException" "__getattribute__" (.ref x) [.str name t] [] _ bga_kind bga_split (L0.andThen L3) (PySem.F.args_bexc_ga _ _) ?_)
  unfold Builtin.«object.__getattribute__»
  refine wpAny_bind (wpAny_pure (wpAny_bind (wpAny_pure (wpAny_bind (L0.at (wpAny_bind (L1.at ?_)))))))
  refine wpAny_pure ?_
  show wpAny _ _ (handedOut v) _ _ _
  rw [handedOut_of hv]; exact wpAny_pure h

theorem exc_get_args {d : Option Addr} (X : K.In s.heap) (I : InstAt s.heap x (excObj C d ta) C od) (hg : excGet K C = true) (hf : findObj K C od "args" = some (.bind (.builtin "getset_descriptor.__get__") (.builtin "BaseException.args")))
    (h : Q (.ref ta) { s with toks := s.toks + 1 }) : wpAny (model prog w) A (getAttr (.ref x) "args" expr) Q E s := by
  refine exc_get_open X I hg hf ?_
  simp only [excGet, Bool.and_eq_true, beq_iff_eq] at hg
  obtain ⟨⟨h1, h2⟩, h3⟩ := hg
  obtain ⟨hh, g, dr, t, os⟩ := s
  have L0 := I.type (M := model prog w)
  have L3 := looks_subIn (M := model prog w) X h3
  have L1 := looks_find (M := model prog w) X I hf
  have hx := I.at_
  refine codeAny_call_builtin bga_plain PySem.F.entry_bexc_ga (@check_slot (model prog w) _ _ ⟨hh, g, dr, t + 1, os⟩ "BaseException.__getattribute__" "BaseException" "__getattribute__" (.ref x) [.str "args" t] [] _ bga_kind bga_split (L0.andThen L3) (PySem.F.args_bexc_ga _ _) ?_)
  unfold Builtin.«object.__getattribute__»
  refine wpAny_bind (wpAny_pure (wpAny_bind (wpAny_pure (wpAny_bind (L0.at (wpAny_bind (L1.at ?_)))))))
  show wpAny _ _ (holding [.builtin "BaseException.args"] (call (.builtin "getset_descriptor.__get__") [.builtin "BaseException.args", .ref x, .ref C]) >>= ret) _ _ _
  refine wpAny_bind (wpAny_holding (wpAny_call ?_))
  have hT5 : (⟨hh, g, dr, t + 1, os⟩ : Shared).TypeIs (.builtin "BaseException.args") "getset_descriptor" := PySem.F.typeOf_bexc_args
  refine codeAny_call_builtin PySem.F.slot_gs_get.plain PySem.F.entry_gs_get (PySem.F.slot_gs_get.check _ _ _ _ _ _ _ _ hT5 (PySem.F.args_gs_get _ _ _) ?_)
  have L4 : Looks (model prog w) hh (isSubtype (.ref C) (.type (".".intercalate ("BaseException.args".cutAt '.').dropLast))) true := by rw [PySem.F.owner_bexc_args]; exact L3
  dsimp only at L0
  unfold Builtin.«getset_descriptor.__get__» descrGet descrGetArgs
  dsimp only
  repeat lk
  refine ⟨Code.quiet_builtin _ (by decide +kernel), codeAny_builtin PySem.F.entry_bexc_args ?_⟩
  unfold Builtin.«BaseException.args»
  refine wpAny_bind (wpAny_field hx rfl (x := .ref ta) rfl ?_)
  exact wpAny_pure (wpAny_pure (wpAny_pure h))
end
end Mine
end
section
open PySem PySem.W PySem.Calls PyProof.Rows
set_option Elab.async false
set_option maxRecDepth 100000
set_option maxHeartbeats 4000000
namespace Mine
def AD (d u : Nat) : Around := { handled := none, depth := d, frames := none, guards := some [], units := u }
theorem weaken {α : Type} {M : Model} {A : Around} {d u : Nat} {t : Sem α} {Q : α → Shared → Prop} {E : Value → Shared → Prop} {s : Shared} (h1 : A.handled = none) (hg : A.guards = some []) (h2 : A.depth ≤ d) (h3 : A.units ≤ u) (h : wpAny M (AD d u) t Q E s) : wpAny M A t Q E s :=
  fun Γ p hΓ => h Γ p ⟨hΓ.1.trans h1, Nat.le_trans hΓ.2.1 h2, (by intro _ e; cases e), (by intro g e; exact hΓ.2.2.2.1 g (hg.trans e)), Nat.le_trans hΓ.2.2.2.2 h3⟩
abbrev Grow (h h' : Heap) : Prop := ∀ b o, h.get? b = some o → h'.get? b = some o
section
variable {prog : Program} {w : World} {A : Around} {K : Frag} {s : Shared} {h₀ : Heap} {L : Addr} {m : Str → Option Value} {news : List (Addr × Obj)} {R : Result → Shared → Prop}
  {name qual : Str} {params : Arguments} {body : List Stmt} {scope : Scope} {dV kV doc pm cdv ct oc : Value} {an od : Option Addr} {osl : Array (Option Value)} {f : Addr} {args : Args} {binds : List (Str × Value)}
/-- enter a def: what stands in h₀ is kept, the objects of the ledger may change -/
theorem enter_new (G : Grow h₀ s.heap) (hz : h₀.objs.size ≤ s.heap.objs.size) (X₀ : K.In h₀) (hlim : h₀.NoLimit) (N : ∀ p ∈ news, s.heap.get? p.1 = some p.2 ∧ h₀.get? p.1 = none)
    (ho : K.lookup f = some ⟨oc, od, .func (fnOf name qual params body scope dV kV doc pm an cdv ct), osl⟩) (hcd : codeIn K cdv qual = true) (hroom : A.depth < recursionLimit)
    (hbind : BindsTo s (fnOf name qual params body scope dV kV doc pm an cdv ct) args binds) (hloc : ∀ y ∈ binds, scope.names.lookup y.1 = some .local)
    (hco : scope.isCoroutine = false) (hgen : scope.isGenerator = false) (hk : scope.kind = .function) (hcell : ∀ x ∈ scope.names, x.2 ≠ .cell)
    (h : ∀ L' h₁ tk, Fr h₀ L' h₁ (fun y => binds.reverse.lookup y) → News h₀ L' h₁ news → (∀ p ∈ news, p.1 < L') → 
      wpAny (model prog w) (A.deeper (envOf qual scope L' f cdv)) (execs body (envOf qual scope L' f cdv)) (fun fl s' => R (.ok (.ret (match fl with | .ret v => v | _ => .none))) s') (fun _ _ => False)
        { s with heap := h₁, toks := tk }) : codeAny (model prog w) A (.call (.ref f) args) R s := by
  have X := X₀.keeps G
  refine codeAny_call_def (fd := fnOf name qual params body scope dV kV doc pm an cdv ct) (body := body) (binds := binds) hroom (X _ _ ho) rfl (hlim.keeps G) (codeRec_of X hcd) rfl hbind hcell hloc (fun h₁ hns hk₁ => ?_) hco hgen hk
  refine wpAny_mono (h s.heap.objs.size h₁ _ ⟨hns, fun b o e => hk₁ b o (G b o e), hz⟩ (fun p hp => ⟨hk₁ _ _ (N p hp).1, Nat.ne_of_lt (Heap.lt_size (N p hp).1), (N p hp).2⟩) fun p hp => Heap.lt_size (N p hp).1) (fun _ _ z => z) fun _ _ z => z.elim

/-- the way back into a frame -/
def BackIn (h₀ : Heap) (L : Addr) (m : Str → Option Value) (oL : Obj) (R : Result → Shared → Prop) (v : Value) (s' : Shared) : Prop := (∀ h', h'.get? L = some oL → Grow h₀ h' → Fr h₀ L h' m) → R (.ok (.ret v)) s'
def AllNe (d : Nat) : List (Addr × Obj) → Prop
  | [] => True
  | p :: r => @Ne Nat p.1 d ∧ AllNe d r
theorem allNe_of {d : Addr} : ∀ {l : List (Addr × Obj)}, (∀ p ∈ l, p.1 ≠ d) → AllNe d l
  | [], _ => trivial
  | p :: _, h => ⟨h p (.head _), allNe_of fun q hq => h q (.tail _ hq)⟩
inductive Drop (L : Addr) (oL : Obj) : List (Addr × Obj) → List (Addr × Obj) → Prop
  | head {r} : (∀ p ∈ r, p.1 ≠ L) → Drop L oL ((L, oL) :: r) r
  | tail {p r r'} : p.1 ≠ L → Drop L oL r r' → Drop L oL (p :: r) (p :: r')
theorem Drop.mem {L : Addr} {oL : Obj} : ∀ {l l' : List (Addr × Obj)}, Drop L oL l l' → (L, oL) ∈ l
  | _, _, .head _ => .head _
  | _, _, .tail _ r => .tail _ r.mem
theorem Drop.sub {L : Addr} {oL : Obj} : ∀ {l l' : List (Addr × Obj)}, Drop L oL l l' → ∀ p ∈ l', p ∈ l ∧ p.1 ≠ L
  | _, _, .head h, p, hp => ⟨.tail _ hp, h p hp⟩
  | _, _, .tail h r, p, hp => by
    rcases List.mem_cons.mp hp with rfl | hp
    · exact ⟨.head _, h⟩
    · exact ⟨.tail _ (r.sub p hp).1, (r.sub p hp).2⟩
theorem back_ {oL : Obj} {L' : Addr} {m' : Str → Option Value} {news' news'' : List (Addr × Obj)} {v : Value} {s' : Shared} (F' : Fr h₀ L' s'.heap m') (N' : News h₀ L' s'.heap news') (D : Drop L oL news' news'')
    (h : Fr h₀ L s'.heap m → News h₀ L s'.heap news'' → R (.ok (.ret v)) s') : BackIn h₀ L m oL R v s' := fun hb =>
  h (hb _ (N' _ D.mem).1 F'.keep) fun p hp => ⟨(N' p (D.sub p hp).1).1, (D.sub p hp).2, (N' p (D.sub p hp).1).2.2⟩

/-- enter a def from within a frame: the frame's own object stands in the ledger -/
theorem enter_in (F : Fr h₀ L s.heap m) (X₀ : K.In h₀) (N : News h₀ L s.heap news) (hlim : h₀.NoLimit)
    (ho : K.lookup f = some ⟨oc, od, .func (fnOf name qual params body scope dV kV doc pm an cdv ct), osl⟩) (hcd : codeIn K cdv qual = true) (hroom : A.depth < recursionLimit)
    (hbind : BindsTo s (fnOf name qual params body scope dV kV doc pm an cdv ct) args binds) (hloc : ∀ y ∈ binds, scope.names.lookup y.1 = some .local)
    (hco : scope.isCoroutine = false) (hgen : scope.isGenerator = false) (hk : scope.kind = .function) (hcell : ∀ x ∈ scope.names, x.2 ≠ .cell)
    (h : ∀ oL L' h₁ tk, Fr h₀ L' h₁ (fun y => binds.reverse.lookup y) → News h₀ L' h₁ ((L, oL) :: news) → (∀ p ∈ (L, oL) :: news, p.1 < L') → (∀ p ∈ news, p.1 ≠ L) →
      wpAny (model prog w) (A.deeper (envOf qual scope L' f cdv)) (execs body (envOf qual scope L' f cdv)) (fun fl s' => BackIn h₀ L m oL R (match fl with | .ret v => v | _ => .none) s') (fun _ _ => False)
        { s with heap := h₁, toks := tk }) : codeAny (model prog w) A (.call (.ref f) args) R s := by
  obtain ⟨oL, es, ep, hL, r⟩ := F.ns
  have hn : h₀.get? L = none := by
    cases q : h₀.get? L with
    | none => rfl
    | some o => exact absurd (Heap.lt_size q) (Nat.not_lt.mpr F.above)
  refine enter_new (news := (L, oL) :: news) F.keep (Nat.le_of_lt (Nat.lt_of_le_of_lt F.above (Heap.lt_size hL))) X₀ hlim (fun p hp => ?_) ho hcd hroom hbind hloc hco hgen hk hcell fun L' h₁ tk F' N' l => wpAny_mono (h oL L' h₁ tk F' N' l fun p hp => (N p hp).2.1) (fun _ _ z => z fun h' e g => ⟨⟨oL, es, ep, e, r⟩, g, F.above⟩) fun _ _ z => z
  rcases List.mem_cons.mp hp with rfl | hp
  · exact ⟨hL, hn⟩
  · exact ⟨(N p hp).1, (N p hp).2.2⟩
end
end Mine
end
section
open PySem PySem.W PySem.Calls PyProof.Rows
set_option Elab.async false
set_option maxRecDepth 100000
set_option maxHeartbeats 4000000
namespace Mine
/-- what is written of v, in any heap that holds what hb holds -/
structure Reprs (prog : Program) (w : World) (hb : Heap) (v : Value) (t : Str) : Prop where
  call : ∀ (A : Around) (s : Shared) (Q E : Value → Shared → Prop), A.handled = none → A.guards = some [] → A.depth ≤ 800 → A.units ≤ 4000 → Grow hb s.heap →
    (∀ h' u tk, Grow s.heap h' → Q (.str t u) { s with heap := h', toks := tk }) → wpAny (model prog w) A (PySem.call (.builtin "repr") [v]) Q E s
  obj : ∀ (A : Around) (s : Shared) (Q E : Value → Shared → Prop), A.handled = none → A.guards = some [] → A.depth ≤ 800 → A.units ≤ 4000 → Grow hb s.heap →
    (∀ h' u tk, Grow s.heap h' → Q (.str t u) { s with heap := h', toks := tk }) → wpAny (model prog w) A (pyReprObj v) Q E s
  short : t.length ≤ 1000000
theorem Reprs.mono {prog : Program} {w : World} {hb h' : Heap} {v : Value} {t : Str} (r : Reprs prog w hb v t) (g : Grow hb h') : Reprs prog w h' v t :=
  ⟨fun A s Q E a b c d e f => r.call A s Q E a b c d (fun x o q => e x o (g x o q)) f, fun A s Q E a b c d e f => r.obj A s Q E a b c d (fun x o q => e x o (g x o q)) f, r.short⟩
def Fields (od : Obj) (fs : List (Str × Value)) : Prop := ∀ p ∈ fs, lookIn p.1 od = some (some p.2)
/-- an error, newly made -/
structure ErrNew (h h' : Heap) (C e d ta : Addr) (od : Obj) (msg : Str) (u : Tok) (fs : List (Str × Value)) (args : List Value) : Prop where
  he : h'.get? e = some (excObj C (some d) ta)
  hd : h'.get? d = some od
  ht : h'.get? ta = some (tupObj args)
  ne : h.get? e = none
  nd : h.get? d = none
  nt : h.get? ta = none
  hm : lookIn "message" od = some (some (.str msg u))
  hf : Fields od fs
/-- what a line number is told as -/
structure Lines (prog : Program) (w : World) (n : Int) (t : Str) : Prop where
  call : ∀ (A : Around) (s : Shared) (Q E : Value → Shared → Prop) (tk nt : Tok), A.handled = none → A.guards = some [] → A.depth ≤ 800 → A.units ≤ 4000 →
    (∀ h' u k, Grow s.heap h' → Q (.str t u) { s with heap := h', toks := k }) → wpAny (model prog w) A (PySem.call (.builtin "str.format") [.str (Str.ofString " [line {0:2d}]") tk, .int n nt]) Q E s
  short : t.length ≤ 1000
section
variable {prog : Program} {w : World} {A : Around} {E : Value → Shared → Prop} {s : Shared} {h₀ : Heap} {L : Addr} {m : Str → Option Value} {news : List (Addr × Obj)} {v : Value} {t : Str} {Q : Value → Shared → Prop}
theorem fr_grow {h h' : Heap} (F : Fr h₀ L h m) (g : Grow h h') : Fr h₀ L h' m := ⟨F.ns.keeps g, fun b o e => g b o (F.keep b o e), F.above⟩
theorem news_grow {h h' : Heap} (N : News h₀ L h news) (g : Grow h h') : News h₀ L h' news := fun p hp => ⟨g _ _ (N p hp).1, (N p hp).2⟩
theorem repr_use (r : Reprs prog w h₀ v t) (F : Fr h₀ L s.heap m) (N : News h₀ L s.heap news) (h1 : A.handled = none) (h2 : A.guards = some []) (h3 : A.depth ≤ 800) (h4 : A.units ≤ 4000)
    (h : ∀ h' u tk, Fr h₀ L h' m → News h₀ L h' news → Q (.str t u) { s with heap := h', toks := tk }) : wpAny (model prog w) A (call (.builtin "repr") [v]) Q E s :=
  r.call A s Q E h1 h2 h3 h4 F.keep fun h' u tk g => h h' u tk (fr_grow F g) (news_grow N g)
theorem isTup_of {h : Heap} {a : Addr} {vs : List Value} (N : News h₀ L h news) (hm : (a, ({ cls := .type "tuple", data := .seq vs.toArray } : Obj)) ∈ news) : h.IsTuple a vs.toArray := ⟨_, (N _ hm).1, rfl, _, rfl⟩
theorem meta_Exception : typeOf (.type "Exception") = pure (.type "type") := by first | rfl | kernel_rfl
theorem line_use {n : Int} {tk nt : Tok} (r : Lines prog w n t) (F : Fr h₀ L s.heap m) (N : News h₀ L s.heap news) (h1 : A.handled = none) (h2 : A.guards = some []) (h3 : A.depth ≤ 800) (h4 : A.units ≤ 4000)
    (h : ∀ h' u tk, Fr h₀ L h' m → News h₀ L h' news → Q (.str t u) { s with heap := h', toks := tk }) : wpAny (model prog w) A (call (.builtin "str.format") [.str (Str.ofString " [line {0:2d}]") tk, .int n nt]) Q E s :=
  r.call A s Q E tk nt h1 h2 h3 h4 fun h' u tk g => h h' u tk (fr_grow F g) (news_grow N g)
theorem isNot_none (hv : v ≠ .none) (q : Q (.bool true) s) : wpAny (model prog w) A (compareOp .IsNot v .none) Q E s :=
  isnot_none_gen (by rw [show (v == Value.none) = false from beq_eq_false_iff_ne.mpr hv]; exact q)
theorem err_close {h' : Heap} {C e d ta : Addr} {od : Obj} {msg : Str} {u : Tok} {fs : List (Str × Value)} {args : List Value} (N : News h₀ L h' news) (h1 : (e, excObj C (some d) ta) ∈ news) (h2 : (d, od) ∈ news) (h3 : (ta, tupObj args) ∈ news)
    (hm : lookIn "message" od = some (some (.str msg u))) (hf : Fields od fs) : ErrNew h₀ h' C e d ta od msg u fs args := ⟨(N _ h1).1, (N _ h2).1, (N _ h3).1, (N _ h1).2.2, (N _ h2).2.2, (N _ h3).2.2, hm, hf⟩
theorem made_grow (h : Heap) (o o' : Obj) : Grow h ((h.push o).push o') := fun _ _ e => Heap.get?_push_of_some _ (Heap.get?_push_of_some _ e)
theorem made_news (h : Heap) (C : Addr) (vs : List Value) : ∀ p ∈ [(h.objs.size + 1, excObj C none h.objs.size), (h.objs.size, tupObj vs)], ((h.push (tupObj vs)).push (excObj C none h.objs.size)).get? p.1 = some p.2 ∧ h.get? p.1 = none := by
  intro p hp
  rcases List.mem_cons.mp hp with rfl | hp
  · exact ⟨by heap_get, Heap.get?_none_of_le (Nat.le_succ _)⟩
  · rcases List.mem_singleton.mp hp with rfl
    exact ⟨Heap.get?_push_of_some _ (Heap.get?_push_size _ rfl), Heap.get?_none_of_le (Nat.le_refl _)⟩
end
end Mine
end
section
open PySem PySem.W PySem.Calls PyProof.Rows
set_option Elab.async false
set_option maxRecDepth 100000
set_option maxHeartbeats 4000000
namespace Mine
section
variable {prog : Program} {w : World} {A : Around} {E : Value → Shared → Prop} {s : Shared} {h₀ : Heap} {L : Addr} {m : Str → Option Value} {news : List (Addr × Obj)} {v : Value} {t : Str} {Q : Value → Shared → Prop} {K : Frag}
theorem reprs_str {hb : Heap} {x : Str} {t : Tok} (hl : (reprText x).length ≤ 1000000) : Reprs prog w hb (.str x t) (reprText x) where
  call := fun A s Q E _ _ _ _ _ h => P.repr_of_str (h s.heap _ _ fun _ _ e => e) (by rw [sizeLine_eq]; omega)
  obj := fun A s Q E _ _ _ _ _ h => wpAny_pyReprObj_str (h s.heap _ _ fun _ _ e => e) (by rw [sizeLine_eq]; omega)
  short := hl

/-- an error that a contract makes, taken into a frame's ledger -/
theorem err_use {f : Value} {vs : List Value} {kw : List (Str × Value)} {C : Addr} {msg : Str} {fs : List (Str × Value)} {args : List Value}
    (c : ∀ Q E, (∀ h' tk e d ta od u, Grow s.heap h' → ErrNew s.heap h' C e d ta od msg u fs args → Q (.ref e) { s with heap := h', toks := tk }) → wpAny (model prog w) (AD 600 2000) (call f vs kw) Q E s)
    (F : Fr h₀ L s.heap m) (N : News h₀ L s.heap news) (h1 : A.handled = none) (h2 : A.guards = some []) (h3 : A.depth ≤ 600) (h4 : A.units ≤ 2000)
    (h : ∀ h' tk e d ta od u, Fr h₀ L h' m → News h₀ L h' ((e, excObj C (some d) ta) :: (d, od) :: (ta, tupObj args) :: news) → AllNe e news → AllNe d news → AllNe ta news → lookIn "message" od = some (some (.str msg u)) → Fields od fs → Q (.ref e) { s with heap := h', toks := tk }) :
    wpAny (model prog w) A (call f vs kw) Q E s := by
  refine weaken h1 h2 h3 h4 (c Q E fun h' tk e d ta od u g n => ?_)
  have hL : ∀ a, s.heap.get? a = none → a ≠ L := fun a ha z => by
    obtain ⟨o, _, _, ho, _⟩ := F.ns
    rw [z, ho] at ha; cases ha
  have h0 : ∀ a, s.heap.get? a = none → h₀.get? a = none := fun a ha => by
    cases q : h₀.get? a with
    | none => rfl
    | some o => rw [F.keep _ _ q] at ha; cases ha
  have hne : ∀ a, s.heap.get? a = none → AllNe a news := fun a ha => allNe_of fun p hp z => by
    have := (N p hp).1
    rw [z, ha] at this; cases this
  refine h h' tk e d ta od u (fr_grow F g) ?_ (hne _ n.ne) (hne _ n.nd) (hne _ n.nt) n.hm n.hf
  intro p hp
  rcases List.mem_cons.mp hp with rfl | hp
  · exact ⟨n.he, hL _ n.ne, h0 _ n.ne⟩
  rcases List.mem_cons.mp hp with rfl | hp
  · exact ⟨n.hd, hL _ n.nd, h0 _ n.nd⟩
  rcases List.mem_cons.mp hp with rfl | hp
  · exact ⟨n.ht, hL _ n.nt, h0 _ n.nt⟩
  · exact news_grow N g p hp

/-- a field of an error in the ledger -/
theorem err_get {expr : Bool} {C x d ta : Addr} {od : Obj} {name : Str} {attr : Option Value} (F : Fr h₀ L s.heap m) (X₀ : K.In h₀) (N : News h₀ L s.heap news) (h1 : (x, excObj C (some d) ta) ∈ news) (h2 : (d, od) ∈ news) (hg : excGet K C = true)
    (hh : hasDictIn K C = true) (ha : findIn K (.ref C) name = some attr) (hn : noGet K attr = true) (hl : lookIn name od = some (some v)) (hv : handedIn v = true) (h : Q v { s with toks := s.toks + 1 }) :
    wpAny (model prog w) A (getAttr (.ref x) name expr) Q E s :=
  exc_get (X₀.keeps F.keep) (InstAt.of_exc N h1 h2) hg (findObj_own hh ha hn hl) hv h
theorem err_args {expr : Bool} {C x d ta : Addr} {od : Obj} (F : Fr h₀ L s.heap m) (X₀ : K.In h₀) (N : News h₀ L s.heap news) (h1 : (x, excObj C (some d) ta) ∈ news) (h2 : (d, od) ∈ news) (hg : excGet K C = true)
    (hc : (clsIn K C).isSome = true) (ha : findIn K (.ref C) "args" = some (some (.builtin "BaseException.args"))) (hs : specialIn K (.builtin "BaseException.args") "__get__" = some (some (.builtin "getset_descriptor.__get__"))) (ht : takesIn K (.builtin "BaseException.args") = some true)
    (h : Q (.ref ta) { s with toks := s.toks + 1 }) : wpAny (model prog w) A (getAttr (.ref x) "args" expr) Q E s :=
  exc_get_args (X₀.keeps F.keep) (InstAt.of_exc N h1 h2) hg (findObj_data hc ha hs ht) h
end
end Mine
end
section
open PySem PySem.W PySem.Calls PyProof.Rows
set_option Elab.async false
namespace Mine
theorem updF_to {d : Addr} {o : Obj} : ∀ {l : List (Addr × Obj)} {g : Obj → List (Addr × Obj)}, UpdF d o l g → ∀ o', Upd d o o' l (g o')
  | _, _, .head h, _ => .head h
  | _, _, .tail h r, o' => .tail h (updF_to r o')
theorem updF_on {d : Addr} {o : Obj} : ∀ {l : List (Addr × Obj)} {g : Obj → List (Addr × Obj)}, UpdF d o l g → ∀ o' o'', Upd d o' o'' (g o') (g o'')
  | _, _, .head h, _, _ => .head h
  | _, _, .tail h r, o', o'' => .tail h (updF_on r o' o'')
theorem updF_mem {d : Addr} {o : Obj} : ∀ {l : List (Addr × Obj)} {g : Obj → List (Addr × Obj)}, UpdF d o l g → (d, o) ∈ l ∧ ∀ o', (d, o') ∈ g o' ∧ ∀ p ∈ g o', p.1 ∈ l.map (·.1)
  | _, _, .head h => ⟨.head _, fun o' => ⟨.head _, fun p hp => by
      rcases List.mem_cons.mp hp with rfl | hp
      · exact .head _
      · exact .tail _ (List.mem_map_of_mem hp)⟩⟩
  | _, _, .tail h r => ⟨.tail _ (updF_mem r).1, fun o' => ⟨.tail _ ((updF_mem r).2 o').1, fun p hp => by
      rcases List.mem_cons.mp hp with rfl | hp
      · exact .head _
      · exact .tail _ (((updF_mem r).2 o').2 p hp)⟩⟩
theorem updF_lt {d b : Addr} {o o' : Obj} {l : List (Addr × Obj)} {g : Obj → List (Addr × Obj)} (U : UpdF d o l g) (h : ∀ p ∈ l, p.1 < b) : ∀ p ∈ g o', p.1 < b := fun p hp => by
  obtain ⟨q, hq, e⟩ := List.mem_map.mp (((updF_mem U).2 o').2 p hp)
  exact e ▸ h q hq
theorem updF_ne {d b : Addr} {o o' : Obj} {l : List (Addr × Obj)} {g : Obj → List (Addr × Obj)} (U : UpdF d o l g) (h : ∀ p ∈ l, p.1 ≠ b) : ∀ p ∈ g o', p.1 ≠ b := fun p hp => by
  obtain ⟨q, hq, e⟩ := List.mem_map.mp (((updF_mem U).2 o').2 p hp)
  exact e ▸ h q hq
end Mine
namespace Mine
def G3 (_ : Array GenState) (_ : Drawn) (_ : OsState) : Prop := True
theorem tok_gen {M : Model} {α : Type} {A : Around} {t : Sem α} {Q : α → Shared → Prop} {E : Value → Shared → Prop} {h : Heap} {g : Array GenState} {d : Drawn} {o : OsState} {tk : Nat} (_ : G3 g d o) (H : ∀ tk, wpAny M A t Q E ⟨h, g, d, tk, o⟩) : wpAny M A t Q E ⟨h, g, d, tk, o⟩ := H tk
end Mine
end
section
open PySem PySem.W PySem.Calls PyProof.Rows Builtin Builtin.Str Builtin.Int Builtin.Float
set_option Elab.async false
set_option maxRecDepth 100000
set_option maxHeartbeats 4000000
namespace Mine
theorem ifno {M : Model} {A : Around} {E : Value → Shared → Prop} {s : Shared} {α : Type} {c : Prop} {d : Decidable c} {a b : Sem α} {Q : α → Shared → Prop} (h : ¬ c) (k : wpAny M A b Q E s) : wpAny M A (@ite _ c d a b) Q E s := by rw [if_neg h]; exact k
def numDigits (n : Int) : List Nat := (if n < 0 then [45] else []) ++ (Nat.toDigits 10 n.natAbs).map Char.toNat
/-- a number, two signs wide at least -/
def fig2 (n : Int) : PySem.Str := ⟨(List.replicate (2 - (numDigits n).length) 32 ++ numDigits n).toArray⟩
theorem spec2d : parseFormatSpec (PySem.Str.ofString "2d").cps.toList "int" 62 = .ok { align := 62, width := some 2, type := some 100 } := by rfl
theorem text2d (a : Int) : intSpecText { align := 62, width := some 2, type := some 100 } a = fig2 a := by
  unfold intSpecText intField' fig2 numDigits
  have hne : (Nat.toDigits 10 a.natAbs).map (fun c => (if (100 : Nat) == 88 then c.toUpper else c).toNat) = (Nat.toDigits 10 a.natAbs).map Char.toNat := rfl
  rw [hne]
  have h1 := tDigits_len_ge 10 a.natAbs
  have he : ((Nat.toDigits 10 a.natAbs).map Char.toNat).isEmpty = false := by
    cases h : Nat.toDigits 10 a.natAbs with
    | nil => rw [h] at h1; simp at h1
    | cons _ _ => rfl
  by_cases hn : a < 0
  · simp [hn, he]
  · simp [hn, he]
theorem fmt2d {a : Int} {t : Tok} (hd : a.natAbs.log2 < 1920) (hl : (fig2 a).length ≤ sizeLine) (u : Tok) : Meets («int.__format__» ⟨[.int a t, .str (PySem.Str.ofString "2d") u], []⟩) (fun _ R s => ∀ t' k, R (.ok (.ret (.str (fig2 a) t'))) { s with toks := k }) := by
  apply KPc.meets_of
  intro _ _ _ _ _ _ _
  unfold Builtin.«int.__format__»
  refine wpAny_bind (wpAny_of_eq (a := (_, _)) rfl ?_)
  refine wpAny_bind (wpAny_of_eq (a := _) rfl ?_)
  kxf_if
  refine wpAny_bind (wpAny_typeNameOf (T := "str") (typeIs_str _ _ _) (by decide) fun _ => ?_)
  refine wpAny_bind (wpAny_of_eq (a := some _) rfl ?_)
  kxf_if
  kxf_if
  refine wpAny_bind (wpAny_typeNameOfCut_int ?_)
  rw [spec2d]
  refine wpAny_ite (KPc.ite_yes (by decide +kernel) ?_)
  refine wpAny_bind (wpAny_of_eq (PySem.overDigitLimit_small hd) ?_)
  show wpAny _ _ (retStr _) _ _ _
  refine KXf.ret_text (T := fig2 a) ?e ?l ?h
  case h => assumption
  case e => (
    rw [← text2d a]
    unfold intSpecText
    rw [show (if ({ align := 62, width := some 2, type := some 100 } : FormatSpec).alt = true then _ else []) = ([] : List Nat) from if_neg (by decide)]
    generalize e1 : (Nat.toDigits 10 a.natAbs).map _ = ds
    rw [show (Nat.toDigits 10 a.natAbs).map (fun c => (if (100 : Nat) == 88 then c.toUpper else c).toNat) = ds from e1]
    cases decide (a < 0) <;> cases ds <;> rfl)
  case l => refine Nat.le_trans (Nat.le_of_eq (congrArg PySem.Str.length (a₂ := fig2 a) ?_)) hl; (
    rw [← text2d a]
    unfold intSpecText
    rw [show (if ({ align := 62, width := some 2, type := some 100 } : FormatSpec).alt = true then _ else []) = ([] : List Nat) from if_neg (by decide)]
    generalize e1 : (Nat.toDigits 10 a.natAbs).map _ = ds
    rw [show (Nat.toDigits 10 a.natAbs).map (fun c => (if (100 : Nat) == 88 then c.toUpper else c).toNat) = ds from e1]
    cases decide (a < 0) <;> cases ds <;> rfl)
theorem formatOf_2d {prog : Program} {w : World} {A : Around} {E : Value → Shared → Prop} {s : Shared} {n : Int} {u : Tok} {X : PySem.Str} {Q : Value → Shared → Prop} (hX : X = PySem.Str.ofString "2d") (hd : n.natAbs.log2 < 1920) (hl : (fig2 n).length ≤ sizeLine)
    (h : ∀ t' k, Q (.str (fig2 n) t') { s with toks := k }) : wpAny (model prog w) A (PySem.Builtin.Str.formatOf (.int n u) X) Q E s := by
  subst hX
  unfold PySem.Builtin.Str.formatOf
  refine wpAny_ite (KPc.ite_no Bool.false_ne_true ?_)
  refine wpAny_bind (wpAny_mkStr ?_ (by decide))
  refine wpAny_bind (m := callSpecial? (.int n u) (PySem.Str.ofString "__format__") [.str (PySem.Str.ofString "2d") s.toks]) (wpAny_callSpecial?_slot (name := PySem.Str.ofString "__format__") (typeIs_int _ n u) F.slot_int_format
    (call_meets F.slot_int_format (typeIs_int _ n u) F.entry_int_format (F.args_int_format_2 _ _) (fmt2d hd hl _) fun t' k => ?_))
  refine wpAny_bind (wpAny_of_eq (a := some (fig2 n)) rfl ?_)
  refine wpAny_ite (KPc.ite_no Bool.false_ne_true ?_)
  exact wpAny_pure (h _ _)
theorem field_man {prog : Program} {w : World} {A : Around} {E : Value → Shared → Prop} {s : Shared} {id : String} {a : Array Value} {byName : PySem.Str → Sem Value} {v : Value} {Q : Value × Numbering → Shared → Prop} {X : List Nat} (hX : X = [48]) (ha : a[0]? = some v)
    (h : Q (v, .manual) s) : wpAny (model prog w) A (fieldObject id (some a) byName X .unset) Q E s := by
  subst hX
  unfold fieldObject
  refine wpAny_bind (wpAny_of_eq (a := some 0) rfl ?_)
  refine wpAny_bind (wpAny_of_eq (a := (some 0, .manual)) rfl ?_)
  simp only [ha, pure_bind]
  rw [KPc.range_list]
  exact wpAny_bind (wpAny_pure (wpAny_pure h))
def lineText (n : Int) : PySem.Str := (PySem.Str.ofString " [line " ++ fig2 n) ++ PySem.Str.ofString "]"
theorem line_meets {n : Int} {tk nt : Tok} (hd : n.natAbs.log2 < 1920) (hl : (fig2 n).length ≤ 900) : Meets («str.format» ⟨[.str (PySem.Str.ofString " [line {0:2d}]") tk, .int n nt], []⟩) (fun _ R s => ∀ t' k, R (.ok (.ret (.str (lineText n) t'))) { s with toks := k }) := by
  apply KPc.meets_of
  intro _ _ _ _ _ _ _
  unfold Builtin.«str.format»
  refine wpAny_bind (wpAny_of_eq (a := (_, _, _)) rfl ?_)
  refine wpAny_bind ?_
  unfold Builtin.Str.buildString
  refine wpAny_bind ?_
  rw [KPc.range_list]
  refine KFm.start ?_
  intro _ _
  refine KPc.turn ?_
  kpc_if
  kpc_check
  refine wpAny_bind (field_man rfl rfl ?_)
  refine wpAny_bind (wpAny_holding (wpAny_of_eq (a := _) rfl ?_))
  kpc_if
  refine wpAny_bind (wpAny_pure ?_)
  refine wpAny_bind (wpAny_holding (formatOf_2d (by rfl) hd (by rw [sizeLine_eq]; omega) ?_)); intro _ _
  refine wpAny_bind (wpAny_of_eq (a := some _) rfl ?_)
  refine wpAny_pure ?_
  refine KFm.after_field (K := 900) (by kpc_g) (by kpc_text) (by kpc_obj) hl (by kpc_obj) (by kfm_cat2) (by kfm_rest) ?_
  intro _ _
  refine KPc.turn ?_
  kpc_if
  kpc_check
  kfm_lit
  refine KPc.turn ?_
  kpc_if
  kfm_close
end Mine
end
section
open PySem PySem.W PySem.Calls PyProof.Rows
set_option Elab.async false
set_option maxRecDepth 100000
set_option maxHeartbeats 4000000
namespace Mine
theorem lines_of {prog : Program} {w : World} {n : Int} (hd : n.natAbs.log2 < 1920) (hl : (fig2 n).length ≤ 900) : Lines prog w n (lineText n) where
  call := fun A s Q E tk nt _ _ _ _ h => KFm.call_k rfl (KFm.args_2 _ _) (line_meets hd hl) fun t' k => h s.heap t' k fun _ _ e => e
  short := by
    have h1 : (PySem.Str.ofString " [line ").length = 7 := by decide +kernel
    have h2 : (PySem.Str.ofString "]").length = 1 := by decide +kernel
    simp only [lineText, PySem.Str.length_append]
    omega
end Mine
end
section
open PySem PySem.W PySem.Calls PyProof.Rows
set_option Elab.async false
set_option maxRecDepth 100000
set_option maxHeartbeats 4000000
namespace Mine
section
variable {prog : Program} {w : World} {A : Around} {E : Value → Shared → Prop} {s : Shared} {h₀ : Heap} {L : Addr} {m : Str → Option Value} {news : List (Addr × Obj)} {v : Value} {t : Str} {Q : Value → Shared → Prop} {K : Frag}
/-- a field of an error that stood ahead of the frame -/
theorem err_get0 {expr : Bool} {C x d ta : Addr} {od : Obj} {name : Str} {attr : Option Value} (F : Fr h₀ L s.heap m) (X₀ : K.In h₀) (h1 : h₀.get? x = some (excObj C (some d) ta)) (h2 : h₀.get? d = some od) (hl : lookIn name od = some (some v)) (hg : excGet K C = true)
    (hh : hasDictIn K C = true) (ha : findIn K (.ref C) name = some attr) (hn : noGet K attr = true) (hv : handedIn v = true) (h : Q v { s with toks := s.toks + 1 }) :
    wpAny (model prog w) A (getAttr (.ref x) name expr) Q E s :=
  exc_get (X₀.keeps F.keep) ⟨F.keep _ _ h1, rfl, rfl, F.keep _ _ h2⟩ hg (findObj_own hh ha hn hl) hv h
/-- str of an error of the ledger -/
theorem err_str {C x d ta f : Addr} {od : Obj} {msg : Str} {u : Tok} (F : Fr h₀ L s.heap m) (X₀ : K.In h₀) (N : News h₀ L s.heap news) (h1 : (x, excObj C (some d) ta) ∈ news) (h2 : (d, od) ∈ news) (hm : lookIn "message" od = some (some (.str msg u)))
    (c : ∀ Q E, s.heap.get? x = some (excObj C (some d) ta) → s.heap.get? d = some od → lookIn "message" od = some (some (.str msg u)) → K.In s.heap → (∀ h' tk, Grow s.heap h' → Q (.str msg u) { s with heap := h', toks := tk }) → wpAny (model prog w) (AD 610 2100) (call (.ref f) [.ref x]) Q E s)
    (hs : findIn K (.ref C) "__str__" = some (some (.ref f))) (hf : isFn K (.ref f) = true) (hu : A.in1.in1.units < cLine) (a1 : A.in1.in1.handled = none) (a2 : A.in1.in1.guards = some []) (a3 : A.in1.in1.depth ≤ 610) (a4 : A.in1.in1.units ≤ 2100)
    (h : ∀ h' tk, Fr h₀ L h' m → News h₀ L h' news → Q (.str msg u) { s with heap := h', toks := tk }) : wpAny (model prog w) A (call (.type "str") [.ref x]) Q E s :=
  kso_call hu (X₀.keeps F.keep) (InstAt.of_exc N h1 h2) hs hf (weaken a1 a2 a3 a4 (c (StrBack Q) E (N _ h1).1 (N _ h2).1 hm (X₀.keeps F.keep) fun h' tk g => h h' tk (fr_grow F g) (news_grow N g)))
/-- a contract that gives a text back, used from a frame -/
theorem text_use {f : Value} {vs : List Value} {kw : List (Str × Value)} {x : Str}
    (c : ∀ Q E, (∀ h' tk u, Grow s.heap h' → Q (.str x u) { s with heap := h', toks := tk }) → wpAny (model prog w) (AD 600 2000) (call f vs kw) Q E s)
    (F : Fr h₀ L s.heap m) (N : News h₀ L s.heap news) (h1 : A.handled = none) (h2 : A.guards = some []) (h3 : A.depth ≤ 600) (h4 : A.units ≤ 2000)
    (h : ∀ h' tk u, Fr h₀ L h' m → News h₀ L h' news → Q (.str x u) { s with heap := h', toks := tk }) : wpAny (model prog w) A (call f vs kw) Q E s :=
  weaken h1 h2 h3 h4 (c Q E fun h' tk u g => h h' tk u (fr_grow F g) (news_grow N g))
end
/-- one frame name changes, in one way or another -/
def Joined (h₀ : Heap) (L : Addr) (m : Str → Option Value) (news : List (Addr × Obj)) (y : Str) (P : Value → Prop) (s : Shared) (fl : Flow) (s' : Shared) : Prop :=
  fl = .next ∧ ∃ h' tk v, s' = { s with heap := h', toks := tk } ∧ P v ∧ Fr h₀ L h' (fun z => if z = y then some v else m z) ∧ News h₀ L h' news
def JoinedV (h₀ : Heap) (L : Addr) (m : Str → Option Value) (news : List (Addr × Obj)) (P : Value → Prop) (s : Shared) (v : Value) (s' : Shared) : Prop :=
  P v ∧ ∃ h' tk, s' = { s with heap := h', toks := tk } ∧ Fr h₀ L h' m ∧ News h₀ L h' news
section
variable {prog : Program} {w : World} {A : Around} {E : Value → Shared → Prop} {s : Shared} {h₀ : Heap} {L : Addr} {m : Str → Option Value} {news : List (Addr × Obj)} {M : Model}
theorem join_ {t : Sem Flow} {Q : Flow → Shared → Prop} (y : Str) (P : Value → Prop) (F : Fr h₀ L s.heap m) (N : News h₀ L s.heap news) (h1 : wpAny M A t (Joined h₀ L m news y P s) E s)
    (h2 : ∀ h' tk v, P v → Fr h₀ L h' (fun z => if z = y then some v else m z) → News h₀ L h' news → Q .next { s with heap := h', toks := tk }) : wpAny M A t Q E s :=
  wpAny_mono h1 (fun _ _ ⟨e, h', tk, v, e', p, F', N'⟩ => by subst e; subst e'; exact h2 h' tk v p F' N') fun _ _ z => z
theorem joinV_ {t : Sem Value} {Q : Value → Shared → Prop} (P : Value → Prop) (F : Fr h₀ L s.heap m) (N : News h₀ L s.heap news) (h1 : wpAny M A t (JoinedV h₀ L m news P s) E s)
    (h2 : ∀ v h' tk, P v → Fr h₀ L h' m → News h₀ L h' news → Q v { s with heap := h', toks := tk }) : wpAny M A t Q E s :=
  wpAny_mono h1 (fun _ _ ⟨p, h', tk, e', F', N'⟩ => by subst e'; exact h2 _ h' tk p F' N') fun _ _ z => z
theorem joined_set {y : Str} {P : Value → Prop} {h' : Heap} {tk : Nat} {v : Value} (p : P v) (F : Fr h₀ L h' (fun z => if z = y then some v else m z)) (N : News h₀ L h' news) : Joined h₀ L m news y P s .next { s with heap := h', toks := tk } := ⟨rfl, h', tk, v, rfl, p, F, N⟩
theorem joined_kept {y : Str} {P : Value → Prop} {h' : Heap} {tk : Nat} {v : Value} (p : P v) (hm : m y = some v) (F : Fr h₀ L h' m) (N : News h₀ L h' news) : Joined h₀ L m news y P s .next { s with heap := h', toks := tk } :=
  ⟨rfl, h', tk, v, rfl, p, by
    have e : (fun z => if z = y then some v else m z) = m := by
      funext z
      by_cases hz : z = y
      · rw [if_pos hz, hz, hm]
      · rw [if_neg hz]
    rw [e]; exact F, N⟩
theorem joinedV_ {P : Value → Prop} {h' : Heap} {tk : Nat} {v : Value} {news' : List (Addr × Obj)} (p : P v) (F : Fr h₀ L h' m) (N : News h₀ L h' news') (hs : ∀ q ∈ news, q ∈ news') : JoinedV h₀ L m news P s v { s with heap := h', toks := tk } := ⟨p, h', tk, rfl, F, fun q hq => N q (hs q hq)⟩
end
end Mine
end
section
open PySem PySem.W PySem.Calls PyProof.Rows
set_option Elab.async false
set_option maxRecDepth 100000
set_option maxHeartbeats 4000000
namespace Mine
section
variable {prog : Program} {w : World} {A : Around} {E : Value → Shared → Prop} {s : Shared}
/-- an item of a list that was just written, by an index within it: one of its items -/
theorem item_tmp {value slice : Expr} {l : Addr} {items : List Value} {k : Int} {u : Tok} {Q : Value → Shared → Prop} (hl : s.heap.IsList l items.toArray) (h0 : 0 ≤ k) (hk : k < (items.length : Int)) (hz : items.length ≤ 1000)
    (h : ∀ x ∈ items, Q x s) (hs : subscripted slice false (.ref l) (.int k u) = operate [.ref l, .int k u] (getItem (.ref l) (.int k u)) := by with_unfolding_all rfl) :
    wpAny (model prog w) A (subscriptTail value slice (.ref l) (.int k u)) Q E s := by
  have hT := hl.typeIs
  have hkn : k.toNat < items.length := by omega
  unfold subscriptTail
  refine wpAny_bind ?_
  rw [getitemInPython_of_ne hT.not_modules]
  refine wpAny_bind (wpAny_specialOf hT slot_list_getitem.lookup ?_)
  have fin : wpAny (model prog w) A (subscripted slice false (.ref l) (.int k u)) (fun r s₃ => wpAny (model prog w) A (letTemporaryGo value (.ref l) r >>= fun _ => pure r) Q E s₃) E s := by
    rw [hs]
    refine wpAny_operating (wpAny_getItem_list hl h0 (by omega) (x := items[k.toNat]) (by simp [hkn]) ?_)
    exact wpAny_bind (wpAny_letTemporaryGo (wpAny_pure (h _ (List.getElem_mem hkn))))
  first
    | exact wpAny_pure (wpAny_bind fin)
    | exact wpAny_bind (wpAny_pure (wpAny_bind fin))
    | exact wpAny_bind fin
end
end Mine
end
section
open PySem PySem.W PySem.Calls PyProof.Rows Builtin Builtin.Str
set_option Elab.async false
set_option maxRecDepth 100000
set_option maxHeartbeats 4000000
namespace Mine
/-- how repr writes v, in any heap that holds what hb holds: by the built-in, by a format's conversion, by a percent sign -/
structure Rep (prog : Program) (w : World) (hb : Heap) (v : Value) (t : PySem.Str) : Prop where
  call : ∀ (A : Around) (s : Shared) (Q E : Value → Shared → Prop), A.handled = none → A.guards = some [] → A.depth ≤ 800 → A.units ≤ 4000 → Grow hb s.heap →
    (∀ h' u tk, Grow s.heap h' → Q (.str t u) { s with heap := h', toks := tk }) → wpAny (model prog w) A (PySem.call (.builtin "repr") [v]) Q E s
  obj : ∀ (A : Around) (s : Shared) (Q E : Value → Shared → Prop), A.handled = none → A.guards = some [] → A.depth ≤ 800 → A.units ≤ 4000 → Grow hb s.heap →
    (∀ h' u tk, Grow s.heap h' → Q (.str t u) { s with heap := h', toks := tk }) → wpAny (model prog w) A (pyReprObj v) Q E s
  under : ∀ (base : Nat), base ≤ 2000000 → ∀ (A : Around) (s : Shared) (Q E : Value → Shared → Prop), A.handled = none → A.guards = some [] → A.depth ≤ 800 → A.units ≤ 4000 → Grow hb s.heap →
    (∀ h' u tk, Grow s.heap h' → Q (.str t u) { s with heap := h', toks := tk }) → wpAny (model prog w) A (pyReprObjUnder base v) Q E s
  short : t.length ≤ 1000000
theorem Rep.old {prog : Program} {w : World} {hb : Heap} {v : Value} {t : PySem.Str} (r : Rep prog w hb v t) : Reprs prog w hb v t := ⟨r.call, r.obj, r.short⟩
theorem Grow.refl (h : Heap) : Grow h h := fun _ _ e => e
theorem Grow.trans {h h' h'' : Heap} (a : Grow h h') (b : Grow h' h'') : Grow h h'' := fun x o e => b x o (a x o e)
theorem Rep.mono {prog : Program} {w : World} {hb h' : Heap} {v : Value} {t : PySem.Str} (r : Rep prog w hb v t) (g : Grow hb h') : Rep prog w h' v t :=
  ⟨fun A s Q E a b c d e f => r.call A s Q E a b c d (g.trans e) f, fun A s Q E a b c d e f => r.obj A s Q E a b c d (g.trans e) f, fun n hn A s Q E a b c d e f => r.under n hn A s Q E a b c d (g.trans e) f, r.short⟩
theorem under_leaf {M : Model} {A : Around} {E : Value → Shared → Prop} {s : Shared} {b : Nat} {v : Value} {T id : String} {Q : Value → Shared → Prop} (hT : s.TypeIs v T) (h : SlotG T (PySem.Str.ofString "__repr__") id)
    (htw : reprUnder? (.builtin id) = none) (hu : A.units < cLine)
    (hc : wpAny M A (call (.builtin id) [v]) (fun v s' => (∃ x u, v = .str x u) ∧ Q v s') E s) : wpAny M A (pyReprObjUnder b v) Q E s := by
  unfold pyReprObjUnder pyReprObjBy
  refine wpAny_bind (wpAny_cRoomFor hu ?_)
  refine wpAny_bind (wpAny_specialOf (name := PySem.Str.ofString "__repr__") hT h.lookup ?_)
  refine wpAny_bind (wpAny_callSpecialIfBoundBy?_slotG (name := PySem.Str.ofString "__repr__") hT h ?_)
  simp only [htw]
  refine wpAny_mono hc (fun v s' hv => ?_) fun _ _ x => x
  obtain ⟨⟨x, u, rfl⟩, hq⟩ := hv
  exact wpAny_bind (wpAny_isInstance (T := "str") (b := true) rfl isSubtype_str_str (wpAny_pure hq))
theorem rep_str {prog : Program} {w : World} {hb : Heap} {x : PySem.Str} {t : Tok} (hl : (reprText x).length ≤ 1000000) : Rep prog w hb (.str x t) (reprText x) where
  call := fun A s Q E _ _ _ _ _ h => P.repr_of_str (h s.heap _ _ fun _ _ e => e) (by rw [sizeLine_eq]; omega)
  obj := fun A s Q E _ _ _ _ _ h => wpAny_pyReprObj_str (h s.heap _ _ fun _ _ e => e) (by rw [sizeLine_eq]; omega)
  under := fun n _ A s Q E _ _ _ _ _ h => by
    exact under_leaf (typeIs_str s x t) F.slot_str_repr.toG rfl (Nat.lt_of_le_of_lt (by assumption) (Nat.le_of_ble_eq_true rfl)) (call_gives F.slot_str_repr (typeIs_str s x t) F.entry_str_repr (F.args_str_repr_1 _) (gives_str_repr x t) ⟨by rw [sizeLine_eq]; omega, ⟨_, _, rfl⟩, h s.heap _ _ fun _ _ e => e⟩)
  short := hl
section
variable {prog : Program} {w : World} {A : Around} {E : Value → Shared → Prop} {s : Shared} {h₀ : Heap} {L : Addr} {m : PySem.Str → Option Value} {news : List (Addr × Obj)} {v v2 v3 v4 : Value} {t t2 t3 t4 : PySem.Str}
theorem tup_grow {h h' : Heap} {b : Addr} {its : Array Value} (g : Grow h h') (x : IsTup h b its) : IsTup h' b its := by
  obtain ⟨o, a, c⟩ := x
  exact ⟨o, g _ _ a, c⟩
/-- what a call on the way asks of its surroundings -/
def Room (A : Around) : Prop := A.handled = none ∧ A.guards = some [] ∧ A.depth ≤ 790 ∧ A.units ≤ 3900
def RSpec (hb : Heap) (T : PySem.Str) (P : Heap → Prop) : PySem.Spec := fun A R s => Room A ∧ Grow hb s.heap ∧ P s.heap ∧ ∀ h' t' k, Grow s.heap h' → R (.ok (.ret (.str T t'))) { s with heap := h', toks := k }
theorem meets_rep {q : Sem Fin} {T : PySem.Str} {hb : Heap} {P : Heap → Prop}
    (h : ∀ (A : Around) (s : Shared) (Q : Fin → Shared → Prop) (E : Value → Shared → Prop), A.handled = none → A.guards = some [] → A.depth ≤ 790 → A.units ≤ 3910 → Grow hb s.heap → P s.heap → (∀ h' t' k, Grow s.heap h' → Q (.done (.ret (.str T t'))) { s with heap := h', toks := k }) → wpAny (model prog w) A q Q E s) :
    MeetsIn prog w q (RSpec hb T P) := fun A R s hS =>
  wpAny_mono (h A.in1 s (fun fin s' => ∃ v, fin = .done (.ret v) ∧ R (.ok (.ret v)) s') (fun e s' => R (.error e) s') hS.1.1 hS.1.2.1 hS.1.2.2.1 (Nat.le_trans (Nat.succ_le_succ hS.1.2.2.2) (by decide)) hS.2.1 hS.2.2.1 fun h' t' k g => ⟨_, rfl, hS.2.2.2 h' t' k g⟩)
    (fun fin s' h' => by obtain ⟨v, rfl, hv⟩ := h'; exact hv) fun _ _ x => x
end
end Mine
end
section
open PySem PySem.W PySem.Calls PyProof.Rows Builtin Builtin.Str
set_option Elab.async false
set_option maxRecDepth 100000
set_option maxHeartbeats 4000000
namespace Mine
theorem args_5 (a b c d e : Value) : argsOk "str.format" ⟨[a, b, c, d, e], []⟩ := by
  unfold argsOk; rw [signature?_of (id := "str.format") (n := ['t', 'a', 'm', 'r', 'o', 'f']) (o := ['r', 't', 's']) (by kernel_rfl) F.owner_str]; kernel_rfl
section
variable {prog : Program} {w : World} {A : Around} {E : Value → Shared → Prop} {s : Shared} {v v2 v3 v4 : Value} {t t2 t3 t4 : PySem.Str}
theorem fmtM_meets {hb : Heap} {tk : Tok} (r1 : Rep prog w hb v t) (r2 : Rep prog w hb v2 t2) (r3 : Rep prog w hb v3 t3) (r4 : Rep prog w hb v4 t4) :
    MeetsIn prog w («str.format» ⟨[.str (PySem.Str.ofString "Bad value substitution: option {!r} in section {!r} contains an interpolation key {!r} which is not a valid option name. Raw value: {!r}") tk, v, v2, v3, v4], []⟩) (RSpec hb (PySem.Str.ofString "Bad value substitution: option " ++ t ++ PySem.Str.ofString " in section " ++ t2 ++ PySem.Str.ofString " contains an interpolation key " ++ t3 ++ PySem.Str.ofString " which is not a valid option name. Raw value: " ++ t4) (fun _ => True)) := by
  apply meets_rep
  intro A s Q E a1 a2 a3 a4 g ht hQ
  unfold Builtin.«str.format»
  refine wpAny_bind (wpAny_of_eq (a := (_, _, _)) rfl ?_)
  refine wpAny_bind ?_
  unfold Builtin.Str.buildString
  refine wpAny_bind ?_
  rw [KPc.range_list]
  refine KFm.start ?_
  intro _ _
  refine KPc.turn ?_; kpc_if; kpc_check
  refine wpAny_bind (KFm.field_auto (by kfm_num) (by rfl) ?_)
  refine wpAny_bind (wpAny_holding ?_)
  refine r1.obj _ _ _ _ a1 a2 (Nat.le_trans a3 (by decide)) (Nat.le_trans a4 (by decide)) (g) fun h1 u1 tk1 g1 => ?_
  kpc_if
  refine wpAny_bind (wpAny_pure ?_)
  refine wpAny_bind (wpAny_holding (wpAny_of_eq (KFm.formatOf_str _ _) ?_))
  refine wpAny_bind (wpAny_of_eq (a := some _) rfl ?_)
  refine wpAny_pure ?_
  refine KFm.after_field (by kpc_g) (by kpc_text) (by kpc_obj) r1.short (by kpc_obj) (by kfm_cat2) (by kfm_rest) ?_
  intro _ _
  refine KPc.turn ?_; kpc_if; kpc_check
  refine wpAny_bind (KFm.field_auto (by kfm_num) (by rfl) ?_)
  refine wpAny_bind (wpAny_holding ?_)
  refine r2.obj _ _ _ _ a1 a2 (Nat.le_trans a3 (by decide)) (Nat.le_trans a4 (by decide)) (g.trans g1) fun h2 u2 tk2 g2 => ?_
  kpc_if
  refine wpAny_bind (wpAny_pure ?_)
  refine wpAny_bind (wpAny_holding (wpAny_of_eq (KFm.formatOf_str _ _) ?_))
  refine wpAny_bind (wpAny_of_eq (a := some _) rfl ?_)
  refine wpAny_pure ?_
  refine KFm.after_field (by kpc_g) (by kpc_text) (by kpc_obj) r2.short (by kpc_obj) (by kfm_cat2) (by kfm_rest) ?_
  intro _ _
  refine KPc.turn ?_; kpc_if; kpc_check
  refine wpAny_bind (KFm.field_auto (by kfm_num) (by rfl) ?_)
  refine wpAny_bind (wpAny_holding ?_)
  refine r3.obj _ _ _ _ a1 a2 (Nat.le_trans a3 (by decide)) (Nat.le_trans a4 (by decide)) ((g.trans g1).trans g2) fun h3 u3 tk3 g3 => ?_
  kpc_if
  refine wpAny_bind (wpAny_pure ?_)
  refine wpAny_bind (wpAny_holding (wpAny_of_eq (KFm.formatOf_str _ _) ?_))
  refine wpAny_bind (wpAny_of_eq (a := some _) rfl ?_)
  refine wpAny_pure ?_
  refine KFm.after_field (by kpc_g) (by kpc_text) (by kpc_obj) r3.short (by kpc_obj) (by kfm_cat2) (by kfm_rest) ?_
  intro _ _
  refine KPc.turn ?_; kpc_if; kpc_check
  refine wpAny_bind (KFm.field_auto (by kfm_num) (by rfl) ?_)
  refine wpAny_bind (wpAny_holding ?_)
  refine r4.obj _ _ _ _ a1 a2 (Nat.le_trans a3 (by decide)) (Nat.le_trans a4 (by decide)) (((g.trans g1).trans g2).trans g3) fun h4 u4 tk4 g4 => ?_
  kpc_if
  refine wpAny_bind (wpAny_pure ?_)
  refine wpAny_bind (wpAny_holding (wpAny_of_eq (KFm.formatOf_str _ _) ?_))
  refine wpAny_bind (wpAny_of_eq (a := some _) rfl ?_)
  refine wpAny_pure ?_
  refine KFm.after_field (by kpc_g) (by kpc_text) (by kpc_obj) r4.short (by kpc_obj) (by kfm_cat2) (by kfm_rest) ?_
  intro _ _
  refine KPc.turn ?_; kpc_if
  refine wpAny_pure ?_
  refine wpAny_pure ?_
  refine KPc.finish_ok (by kpc_g) (by decide +kernel) rfl ?_
  exact fun t' k => hQ _ _ _ (((g1.trans g2).trans g3).trans g4)
theorem fmtD_meets {hb : Heap} {tk t10 : Tok} (r1 : Rep prog w hb v t) (r2 : Rep prog w hb v2 t2) (r4 : Rep prog w hb v4 t4) :
    MeetsIn prog w («str.format» ⟨[.str (PySem.Str.ofString "Recursion limit exceeded in value substitution: option {!r} in section {!r} contains an interpolation key which cannot be substituted in {} steps. Raw value: {!r}") tk, v, v2, .int 10 t10, v4], []⟩) (RSpec hb (PySem.Str.ofString "Recursion limit exceeded in value substitution: option " ++ t ++ PySem.Str.ofString " in section " ++ t2 ++ PySem.Str.ofString " contains an interpolation key which cannot be substituted in " ++ PySem.Str.ofString "10" ++ PySem.Str.ofString " steps. Raw value: " ++ t4) (fun _ => True)) := by
  apply meets_rep
  intro A s Q E a1 a2 a3 a4 g ht hQ
  unfold Builtin.«str.format»
  refine wpAny_bind (wpAny_of_eq (a := (_, _, _)) rfl ?_)
  refine wpAny_bind ?_
  unfold Builtin.Str.buildString
  refine wpAny_bind ?_
  rw [KPc.range_list]
  refine KFm.start ?_
  intro _ _
  refine KPc.turn ?_; kpc_if; kpc_check
  refine wpAny_bind (KFm.field_auto (by kfm_num) (by rfl) ?_)
  refine wpAny_bind (wpAny_holding ?_)
  refine r1.obj _ _ _ _ a1 a2 (Nat.le_trans a3 (by decide)) (Nat.le_trans a4 (by decide)) (g) fun h1 u1 tk1 g1 => ?_
  kpc_if
  refine wpAny_bind (wpAny_pure ?_)
  refine wpAny_bind (wpAny_holding (wpAny_of_eq (KFm.formatOf_str _ _) ?_))
  refine wpAny_bind (wpAny_of_eq (a := some _) rfl ?_)
  refine wpAny_pure ?_
  refine KFm.after_field (by kpc_g) (by kpc_text) (by kpc_obj) r1.short (by kpc_obj) (by kfm_cat2) (by kfm_rest) ?_
  intro _ _
  refine KPc.turn ?_; kpc_if; kpc_check
  refine wpAny_bind (KFm.field_auto (by kfm_num) (by rfl) ?_)
  refine wpAny_bind (wpAny_holding ?_)
  refine r2.obj _ _ _ _ a1 a2 (Nat.le_trans a3 (by decide)) (Nat.le_trans a4 (by decide)) (g.trans g1) fun h2 u2 tk2 g2 => ?_
  kpc_if
  refine wpAny_bind (wpAny_pure ?_)
  refine wpAny_bind (wpAny_holding (wpAny_of_eq (KFm.formatOf_str _ _) ?_))
  refine wpAny_bind (wpAny_of_eq (a := some _) rfl ?_)
  refine wpAny_pure ?_
  refine KFm.after_field (by kpc_g) (by kpc_text) (by kpc_obj) r2.short (by kpc_obj) (by kfm_cat2) (by kfm_rest) ?_
  intro _ _
  refine KPc.turn ?_; kpc_if; kpc_check
  refine wpAny_bind (KFm.field_auto (by kfm_num) (by rfl) ?_)
  refine wpAny_bind (wpAny_holding (wpAny_of_eq (a := _) rfl ?_))
  kpc_if
  refine wpAny_bind (wpAny_pure ?_)
  refine wpAny_bind (wpAny_holding (KFm.formatOf_int (by decide +kernel) ?_)); intro _ _
  refine wpAny_bind (wpAny_of_eq (a := some _) rfl ?_)
  refine wpAny_pure ?_
  refine KFm.after_field (K := 100) (by kpc_g) (by kpc_text) (by kpc_obj) (by decide +kernel) (by kpc_obj) (by kfm_cat2) (by kfm_rest) ?_
  intro _ _
  refine KPc.turn ?_; kpc_if; kpc_check
  refine wpAny_bind (KFm.field_auto (by kfm_num) (by rfl) ?_)
  refine wpAny_bind (wpAny_holding ?_)
  refine r4.obj _ _ _ _ a1 a2 (Nat.le_trans a3 (by decide)) (Nat.le_trans a4 (by decide)) (((g.trans g1).trans g2)) fun h4 u4 tk4 g4 => ?_
  kpc_if
  refine wpAny_bind (wpAny_pure ?_)
  refine wpAny_bind (wpAny_holding (wpAny_of_eq (KFm.formatOf_str _ _) ?_))
  refine wpAny_bind (wpAny_of_eq (a := some _) rfl ?_)
  refine wpAny_pure ?_
  refine KFm.after_field (by kpc_g) (by kpc_text) (by kpc_obj) r4.short (by kpc_obj) (by kfm_cat2) (by kfm_rest) ?_
  intro _ _
  refine KPc.turn ?_; kpc_if
  refine wpAny_pure ?_
  refine wpAny_pure ?_
  refine KPc.finish_ok (by kpc_g) (by decide +kernel) rfl ?_
  exact fun t' k => hQ _ _ _ (((g1.trans g2).trans g4))
theorem fmt_rep {hb : Heap} {X T : PySem.Str} {tk : Tok} {vs : List Value} {Q : Value → Shared → Prop} (hR : Room A) (g : Grow hb s.heap) (ha : argsOk "str.format" ⟨.str X tk :: vs, []⟩)
    (hm : MeetsIn prog w («str.format» ⟨.str X tk :: vs, []⟩) (RSpec hb T (fun _ => True)))
    (h : ∀ h' t' k, Grow s.heap h' → Q (.str T t') { s with heap := h', toks := k }) : wpAny (model prog w) A (call (.builtin "str.format") (.str X tk :: vs)) Q E s :=
  call_meetsIn F.slot_str_format_m (typeIs_str s X tk) F.entry_str_format_m ha hm ⟨hR, g, trivial, h⟩
end
end Mine
end
section
open PySem PySem.W PySem.Calls PyProof.Rows Builtin Builtin.Str
set_option Elab.async false
set_option maxRecDepth 100000
set_option maxHeartbeats 4000000
namespace Mine
section
variable {prog : Program} {w : World} {A : Around} {E : Value → Shared → Prop} {s : Shared} {h₀ : Heap} {L : Addr} {m : PySem.Str → Option Value} {news : List (Addr × Obj)} {Q : Value → Shared → Prop} {X T : PySem.Str} {tk : Tok}
theorem reprObj_use {v : Value} {t : PySem.Str} (r : Rep prog w h₀ v t) (F : Fr h₀ L s.heap m) (N : News h₀ L s.heap news) (h1 : A.handled = none) (h2 : A.guards = some []) (h3 : A.depth ≤ 800) (h4 : A.units ≤ 4000)
    (h : ∀ h' u tk, Fr h₀ L h' m → News h₀ L h' news → Q (.str t u) { s with heap := h', toks := tk }) : wpAny (model prog w) A (pyReprObj v) Q E s :=
  r.obj A s Q E h1 h2 h3 h4 F.keep fun h' u tk g => h h' u tk (fr_grow F g) (news_grow N g)
theorem fmt_use {vs : List Value} (F : Fr h₀ L s.heap m) (N : News h₀ L s.heap news) (hR : Room A) (ha : argsOk "str.format" ⟨.str X tk :: vs, []⟩)
    (hm : MeetsIn prog w («str.format» ⟨.str X tk :: vs, []⟩) (RSpec h₀ T (fun _ => True)))
    (h : ∀ h' u tk, Fr h₀ L h' m → News h₀ L h' news → Q (.str T u) { s with heap := h', toks := tk }) : wpAny (model prog w) A (call (.builtin "str.format") (.str X tk :: vs)) Q E s :=
  fmt_rep hR F.keep ha hm fun h' u k g => h h' u k (fr_grow F g) (news_grow N g)
end
end Mine
end
section
open PySem PySem.W PySem.Calls PyProof.Rows Builtin Builtin.List
set_option Elab.async false
set_option maxRecDepth 100000
set_option maxHeartbeats 4000000
namespace Mine
/-- how an item within a tuple or list is written -/
def RepI (prog : Program) (w : World) (hb : Heap) (v : Value) (t : PySem.Str) : Prop := ∀ (base : Nat), base + t.length ≤ sizeLine → ∀ (A : Around) (E : Value → Shared → Prop) (s : Shared) (Q : PySem.Str → Shared → Prop), A.handled = none → A.depth ≤ 850 → A.units ≤ 4200 → Grow hb s.heap →
  (∀ h' tk, Grow s.heap h' → Q t { s with heap := h', toks := tk }) → wpAny (model prog w) A (pyReprUnder base v) Q E s
section
variable {prog : Program} {w : World} {A : Around} {E : Value → Shared → Prop} {s : Shared} {K : Frag} {x C f : Addr} {ox : Obj} {od : Option Obj} {hb : Heap} {t : PySem.Str}
theorem repI_str {y : PySem.Str} {k : Tok} (hl : (reprText y).length ≤ 1000000) : RepI prog w hb (.str y k) (reprText y) := fun base hb A E s Q _ _ _ _ h =>
  ReprIs.str y k (by rw [sizeLine_eq]; omega) base hb A E s Q fun tk => h s.heap tk fun _ _ e => e
theorem RepI.mono {h' : Heap} {v : Value} (r : RepI prog w hb v t) (g : Grow hb h') : RepI prog w h' v t := fun base hl A E s Q a b c d e => r base hl A E s Q a b c (g.trans d) e
theorem by_K {last : Value → List Value → Sem Value} {M : Model} {Q : Value → Shared → Prop} (hu : A.units < cLine) (X : K.In s.heap) (I : InstAt s.heap x ox C od) (hs : findIn K (.ref C) "__repr__" = some (some (.ref f))) (hf : isFn K (.ref f) = true)
    (h : wpAny M A (last (.ref f) [.ref x]) (StrBack Q) E s) : wpAny M A (pyReprObjBy last (.ref x)) Q E s := by
  unfold pyReprObjBy
  refine wpAny_bind (wpAny_cRoomFor hu ?_)
  refine wpAny_bind (wpAny_bind (I.type.here ((looks_findIn X hs).here ?_)))
  show wpAny _ _ (if (some (Value.ref f)).isNone = true then _ else _) _ _ _
  rw [if_neg (by simp)]
  have key : wpAny M A (callSpecialIfBoundBy? last (.ref x) (PySem.Str.ofString "__repr__")) (fun r s' => ∃ y u, r = some (.str y u) ∧ Q (.str y u) s') E s := by
    simp only [callSpecialIfBoundBy?, bindSpecialIfBound?]
    refine wpAny_holding (wpAny_bind (wpAny_bind (wpAny_bind (I.type.here ((looks_findIn X hs).here ?_)))))
    refine wpAny_bind (wpAny_askSetting (wpAny_ite ?_))
    have fin : wpAny M A (last (.ref f) [.ref x] >>= fun v => pure (some v)) (fun r s' => ∃ y u, r = some (.str y u) ∧ Q (.str y u) s') E s := wpAny_bind (wpAny_mono h (fun v s' hv => wpAny_pure (by cases v <;> first | exact hv.elim | exact ⟨_, _, rfl, hv⟩)) fun _ _ e => e)
    split
    · exact wpAny_bind ((bind_fn X _ (beq_iff_eq.mp hf)).here (wpAny_pure (by exact fin)))
    · exact wpAny_tryCatch (wpAny_bind ((bind_fn X _ (beq_iff_eq.mp hf)).here (wpAny_pure (by exact fin))))
  refine wpAny_bind (wpAny_mono key (fun r s' hr => ?_) fun _ _ e => e)
  obtain ⟨y, u, rfl, hq⟩ := hr
  exact wpAny_bind (wpAny_isInstance (typeIs_str _ _ _) isSubtype_str_str (wpAny_pure hq))
/-- what the def __repr__ of a class gives for x, whatever stands around -/
def Tells (prog : Program) (w : World) (hb : Heap) (f x : Addr) (t : PySem.Str) : Prop := ∀ (A : Around) (s : Shared) (Q E : Value → Shared → Prop), A.handled = none → A.depth ≤ 880 → A.units ≤ 4400 → Grow hb s.heap →
  (∀ h' u tk, Grow s.heap h' → Q (.str t u) { s with heap := h', toks := tk }) → wpAny (model prog w) A (PySem.call (.ref f) [.ref x]) Q E s
theorem inst_grow {h h' : Heap} (I : InstAt h x ox C od) (g : Grow h h') : InstAt h' x ox C od := by
  obtain ⟨a, b, c, d⟩ := I
  refine ⟨g _ _ a, b, c, ?_⟩
  cases e : ox.dict with
  | none => rw [e] at d; cases od with
    | none => exact d
    | some o => exact d
  | some q => rw [e] at d; cases od with
    | none => exact d
    | some o => exact g _ _ d
theorem units_ok {n k : Nat} (h : n ≤ k) (hk : k < cLine) : n < cLine := Nat.lt_of_le_of_lt h hk
theorem rep_inst (X : K.In hb) (I : InstAt hb x ox C od) (hs : findIn K (.ref C) "__repr__" = some (some (.ref f))) (hf : isFn K (.ref f) = true) (c : Tells prog w hb f x t) (hl : t.length ≤ 1000000) : Rep prog w hb (.ref x) t where
  call := fun A s Q E a1 a2 a3 a4 g h => by
    refine Calls.call_function_entry PySem.F.kind_repr PySem.F.plain_repr PySem.F.entry_repr (PySem.F.args_repr1 _) ?_
    unfold Builtin.«repr»
    refine wpAny_bind (m := oneArg "repr" _) (wpAny_pure ?_)
    have X' := X.keeps g
    have I' := inst_grow I g
    refine wpAny_bind (wpAny_cRoomFor (units_ok (Nat.succ_le_succ a4) (by decide +kernel)) ?_)
    refine wpAny_bind (wpAny_bind (I'.type.here ((looks_findIn X' hs).here ?_)))
    show wpAny _ _ (if (some (Value.ref f)).isNone = true then _ else _) _ _ _
    rw [if_neg (by simp)]
    refine wpAny_bind (m := callSpecialIfBound? (.ref x) (PySem.Str.ofString "__repr__") _) (ifBound_K X' I' hs hf (c _ _ _ _ a1 (Nat.le_trans a3 (by decide)) (Nat.le_trans (Nat.succ_le_succ a4) (by decide)) g fun h' u tk g' => ?_))
    refine wpAny_bind (wpAny_isInstance (typeIs_str _ _ _) isSubtype_str_str ?_)
    exact wpAny_pure ⟨_, rfl, h h' u tk g'⟩
  obj := fun A s Q E a1 a2 a3 a4 g h => by
    rw [pyReprObj_eq_pyReprObjBy]
    exact by_K (units_ok a4 (by decide +kernel)) (X.keeps g) (inst_grow I g) hs hf (c _ _ _ _ a1 (Nat.le_trans a3 (by decide)) (Nat.le_trans a4 (by decide)) g h)
  under := fun n hn A s Q E a1 a2 a3 a4 g h => by
    unfold pyReprObjUnder
    exact by_K (units_ok a4 (by decide +kernel)) (X.keeps g) (inst_grow I g) hs hf (c _ _ _ _ a1 (Nat.le_trans a3 (by decide)) (Nat.le_trans a4 (by decide)) g h)
  short := hl
theorem repI_inst (X : K.In hb) (I : InstAt hb x ox C od) (hs : findIn K (.ref C) "__repr__" = some (some (.ref f))) (hf : isFn K (.ref f) = true) (c : Tells prog w hb f x t) : RepI prog w hb (.ref x) t := fun base hbs A E s Q a1 a3 a4 g h => by
  refine wpAny_pyReprUnder_ref (by omega) ?_
  unfold pyReprObjUnder
  exact by_K (units_ok a4 (by decide +kernel)) (X.keeps g) (inst_grow I g) hs hf (c _ _ _ _ a1 (Nat.le_trans a3 (by decide)) (Nat.le_trans a4 (by decide)) g fun h' u tk g' => ⟨_, _, rfl, h h' tk g'⟩)
/-- the items of a tuple, one by one -/
inductive RepAll (prog : Program) (w : World) (hb : Heap) : List Value → List PySem.Str → Prop
  | nil : RepAll prog w hb [] []
  | cons {v : Value} {t : PySem.Str} {l : List Value} {ts : List PySem.Str} : RepI prog w hb v t → RepAll prog w hb l ts → RepAll prog w hb (v :: l) (t :: ts)
theorem RepAll.len : ∀ {l : List Value} {ts : List PySem.Str}, RepAll prog w hb l ts → ts.length = l.length
  | _, _, .nil => rfl
  | _, _, .cons _ r => by simp [r.len]
theorem items_told (a1 : A.handled = none) (a3 : A.depth ≤ 850) (a4 : A.units ≤ 4200) : ∀ {l : List Value} {ts : List PySem.Str} (acc : Array PySem.Str) (n : Nat) (s : Shared) (Q : (Array PySem.Str × Nat) → Shared → Prop), RepAll prog w hb l ts → n + piled ts ≤ sizeLine → Grow hb s.heap →
    (∀ h' tk, Grow s.heap h' → Q (acc ++ ts.toArray, n + piled ts) { s with heap := h', toks := tk }) → wpAny (model prog w) A (forIn l (acc, n) tupBody) Q E s := by
  intro l ts acc n s Q r
  induction r generalizing acc n s Q with
  | nil =>
    intro _ _ h
    rw [List.forIn_nil]
    have := h s.heap s.toks (Grow.refl _)
    exact wpAny_pure (by simpa [piled] using this)
  | @cons v t l ts hv r ih =>
    intro hn g h
    have hp : piled (t :: ts) = (t.length + 2) + piled ts := piled_cons t ts
    rw [List.forIn_cons]
    refine wpAny_bind (wpAny_bind (hv (n + 1) (by omega) A E s _ a1 a3 a4 g fun h1 k1 g1 => wpAny_pure ?_))
    refine ih (acc.push t) (n + (t.length + 2)) _ Q (by omega) (g.trans g1) fun h2 k2 g2 => ?_
    have q := h h2 k2 (g1.trans g2)
    rw [show n + piled (t :: ts) = n + (t.length + 2) + piled ts by omega] at q
    simpa using q
theorem tup_own {a : Addr} {o : Obj} {its : Array Value} {n : Nat} {ts : List PySem.Str} (ha : hb.get? a = some o) (hd : o.data = .seq its n) (hT : RepAll prog w hb its.toList ts)
    {R : Result → Shared → Prop} {base : Nat} {id : String} {rest : List Value} (hcu : (A.under (.builtin id ⟨.ref a :: rest, []⟩)).units = A.units + 1)
    (a1 : A.handled = none) (a2 : A.guards = some []) (a3 : A.depth ≤ 800) (a4 : A.units ≤ 4100) (g : Grow hb s.heap)
    (hR : ∀ h' u tk, Grow s.heap h' → R (.ok (.ret (.str (tupleText ts) u))) { s with heap := h', toks := tk }) (hz : base + (tupleText ts).length ≤ sizeLine) (hh : (A.under (.builtin id ⟨.ref a :: rest, []⟩)).handled = A.handled) (hdp : (A.under (.builtin id ⟨.ref a :: rest, []⟩)).depth ≤ A.depth + 1) :
    wpOwn (model prog w) A (.builtin id ⟨.ref a :: rest, []⟩) (Builtin.tupleReprAt base ⟨[.ref a], []⟩) (fun fin s' => match fin with | .done f => R (.ok f) s' | .again c' => c'.quiet = true ∧ codeAny (model prog w) A c' R s') (fun e s' => R (.error e) s') s := by
  have hp := piled_le_tupleText ts
  have hlen : ts.length = its.size := by simpa using hT.len
  rw [tuple_repr_tree, tupleReprUnderWay_eq]
  refine wpOwn_bind (wpOwn_stackTailAny a2 (tupGuardF_off _) (tupGuardF_pos _) ?_)
  refine wpOwn_of_wpAny ?_
  show wpAny _ _ (tupleReprRest base (.ref a)) _ _ s
  unfold tupleReprRest Builtin.Tuple.tupleItemsOf
  refine wpAny_bind (wpAny_bind (wpAny_seqItems (g _ _ ha) hd (wpAny_pure ?_)))
  rw [← Array.forIn_toList]
  refine wpAny_bind (items_told (hh.trans a1) (by omega) (by rw [hcu]; omega) _ _ _ _ hT (by omega) g fun h' tk g' => ?_)
  refine wpAny_bind (wpAny_mkStr (wpAny_pure ?_) (by simpa [tupleText, hlen] using (by omega : (tupleText ts).length ≤ sizeLine)))
  have q := hR h' tk (tk + 1) g'
  simpa [tupleText, hlen] using q
theorem wt_tup (args : Args) : (Code.builtin "tuple.__repr__" args).weight = 1 := by kernel_rfl
theorem wt_tupU (args : Args) : (Code.builtin "tuple.__repr__.under" args).weight = 1 := by kernel_rfl
theorem dep_tup (A : Around) (args : Args) : (A.under (.builtin "tuple.__repr__" args)).depth ≤ A.depth + 1 := by
  show A.depth + Code.weight _ ≤ _
  rw [wt_tup]; omega
theorem dep_tupU (A : Around) (args : Args) : (A.under (.builtin "tuple.__repr__.under" args)).depth ≤ A.depth + 1 := by
  show A.depth + Code.weight _ ≤ _
  rw [wt_tupU]; omega
theorem rep_tup {a : Addr} {o : Obj} {its : Array Value} {n : Nat} {ts : List PySem.Str} (ha : hb.get? a = some o) (hc : o.cls = .type "tuple") (hd : o.data = .seq its n) (hT : RepAll prog w hb its.toList ts) (hl : (tupleText ts).length ≤ 1000000) : Rep prog w hb (.ref a) (tupleText ts) := by
  have hz := sizeLine_eq
  have direct : ∀ (A : Around) (s : Shared) (Q E : Value → Shared → Prop), A.handled = none → A.guards = some [] → A.depth ≤ 800 → A.units ≤ 4100 → Grow hb s.heap →
      (∀ h' u tk, Grow s.heap h' → Q (.str (tupleText ts) u) { s with heap := h', toks := tk }) → wpAny (model prog w) A (PySem.call (.builtin "tuple.__repr__") [.ref a]) Q E s := fun A s Q E a1 a2 a3 a4 g h =>
    wpAny_call (codeAny_call_builtin_own (Code.quiet_builtin _ (by decide +kernel)) F.entry_tuple_repr (F.slot_tuple_repr.check _ _ _ _ _ _ _ _ ⟨o, g _ _ ha, hc⟩ (F.args_tuple_repr_1 _)
      (tup_own (base := 0) (R := callEnd Q E) ha hd hT (units_under_tuple_repr _ _) a1 a2 a3 a4 g h (by omega) rfl (dep_tup _ _))))
  refine ⟨fun A s Q E a1 a2 a3 a4 g h => ?_, fun A s Q E a1 a2 a3 a4 g h => ?_, fun m hm A s Q E a1 a2 a3 a4 g h => ?_, hl⟩
  · have hTy : s.TypeIs (.ref a) "tuple" := ⟨o, g _ _ ha, hc⟩
    refine Calls.call_function_entry PySem.F.kind_repr PySem.F.plain_repr PySem.F.entry_repr (PySem.F.args_repr1 _) ?_
    unfold Builtin.«repr»
    refine wpAny_bind (m := oneArg "repr" _) (wpAny_pure ?_)
    refine wpAny_bind (wpAny_cRoomFor (units_ok (Nat.succ_le_succ a4) (by decide +kernel)) ?_)
    refine wpAny_bind (wpAny_specialOf (name := PySem.Str.ofString "__repr__") hTy F.slot_tuple_repr.lookup ?_)
    refine wpAny_bind (m := callSpecialIfBound? (.ref a) (PySem.Str.ofString "__repr__") _) (wpAny_callSpecialIfBound?_slotG (name := PySem.Str.ofString "__repr__") hTy F.slot_tuple_repr
      (direct _ _ _ _ a1 a2 a3 (Nat.le_trans (Nat.succ_le_succ a4) (by decide)) g fun h' u tk g' => ?_))
    exact wpAny_bind (wpAny_isInstance (T := "str") (b := true) rfl isSubtype_str_str (wpAny_pure ⟨_, rfl, h h' u tk g'⟩))
  · have hTy : s.TypeIs (.ref a) "tuple" := ⟨o, g _ _ ha, hc⟩
    unfold pyReprObj
    refine wpAny_bind (wpAny_cRoomFor (units_ok a4 (by decide +kernel)) ?_)
    refine wpAny_bind (wpAny_specialOf (name := PySem.Str.ofString "__repr__") hTy F.slot_tuple_repr.lookup ?_)
    refine wpAny_bind (m := callSpecialIfBound? (.ref a) (PySem.Str.ofString "__repr__")) (wpAny_callSpecialIfBound?_slotG (name := PySem.Str.ofString "__repr__") hTy F.slot_tuple_repr
      (direct _ _ _ _ a1 a2 a3 (Nat.le_trans a4 (by decide)) g fun h' u tk g' => ?_))
    exact wpAny_bind (wpAny_isInstance (T := "str") (b := true) rfl isSubtype_str_str (wpAny_pure (h h' u tk g')))
  · exact wpAny_pyReprObjUnder_twin (twin := "tuple.__repr__.under") ⟨o, g _ _ ha, hc⟩ F.slot_tuple_repr rfl (units_ok a4 (by decide +kernel))
      (call_twin_own (F.quiet_tuple_repr_under _) F.entry_tuple_repr_under F.check_tuple_repr_under ⟨o, g _ _ ha, hc⟩ F.slot_tuple_repr (F.args_tuple_repr_1 _)
        (tup_own (R := callEnd _ E) ha hd hT (units_under_tuple_repr_under _ _) a1 a2 a3 (Nat.le_trans a4 (by decide)) g (fun h' u tk g' => ⟨⟨_, _, rfl⟩, h h' u tk g'⟩) (by omega) rfl (dep_tupU _ _)))
end
end Mine
end
section
open PySem PySem.W PySem.Calls PyProof.Rows Builtin Builtin.List
set_option Elab.async false
set_option maxRecDepth 100000
set_option maxHeartbeats 4000000
namespace Mine
def partsObj (acc : Array Value) (c : Nat) : Obj := { cls := .type "list", dict := none, data := .seq acc c, slots := #[] }
theorem wt_loop (args : Args) : (Code.builtin "list.__repr__.loop" args).weight = 1 := by kernel_rfl
section
variable {prog : Program} {w : World} {A : Around} {E : Value → Shared → Prop} {s : Shared} {hb : Heap} {R : Result → Shared → Prop}
/-- one item of a list is written -/
theorem loop_item {a P : Addr} {its acc : Array Value} {na c i b : Nat} {v : Value} {t : PySem.Str} {oa : Obj} (hv : its[i]? = some v) (r : RepI prog w hb v t) (a1 : A.handled = none) (a3 : A.depth ≤ 800) (a4 : A.units ≤ 4100)
    (g : Grow hb s.heap) (hP0 : hb.get? P = none) (ha : hb.get? a = some oa) (hda : oa.data = .seq its na) (hP : s.heap.get? P = some (partsObj acc c)) (hbt : b + 1 + t.length ≤ sizeLine) (hac : acc.size ≤ 1000)
    (next : ∀ h' tk c', Grow hb h' → (∀ q o, q ≠ P → s.heap.get? q = some o → h'.get? q = some o) → h'.get? P = some (partsObj (acc.push (.str t tk)) c') →
      codeAny (model prog w) A (.builtin "list.__repr__.loop" ⟨[.ref a, rawInt ((i + 1 : Nat) : Int), .ref P, rawInt ((b + (t.length + 2) : Nat) : Int)], []⟩) R { s with heap := h', toks := tk + 1 }) :
    codeAny (model prog w) A (.builtin "list.__repr__.loop" ⟨[.ref a, rawInt (i : Int), .ref P, rawInt (b : Int)], []⟩) R s := by
  have hz := sizeLine_eq
  refine codeAny_builtin F.entry_list_repr_loop ?_
  show wpAny _ _ («list.__repr__.loop» ⟨[.ref a, .int i 0, .ref P, .int (b : Int) 0], []⟩) _ _ s
  rw [repr_loop_tree]
  refine wpAny_bind (wpAny_listItems (g _ _ ha) hda ?_)
  simp only [Int.toNat_natCast, hv]
  refine wpAny_bind (wpAny_holding (r (b + 1) hbt _ _ _ _ a1 ?_ (by rw [units_under_list_loop]; omega) g fun h1 k1 g1 => ?_))
  · show A.depth + Code.weight _ ≤ _
    rw [wt_loop]; omega
  refine wpAny_bind (wpAny_mkStr ?_ (by omega))
  refine wpAny_bind ?_
  show wpAny _ _ (updateSeq P _) _ _ _
  refine wpAny_updateSeq (g1 _ _ hP) rfl (wpAny_pure ⟨F.quiet_list_repr_loop _, ?_⟩) (by omega)
  have e1 : ((i : Int) + 1) = ((i + 1 : Nat) : Int) := by omega
  rw [e1]
  exact next _ k1 _ (fun q o e => (Heap.get?_update_other _ _ (fun z : P = q => by rw [← z, hP0] at e; cases e)).trans (g1 _ _ (g _ _ e)))
    (fun q o hq e => (Heap.get?_update_other _ _ (fun z : P = q => hq z.symm)).trans (g1 _ _ e)) (Heap.get?_update_self _ (g1 _ _ hP) rfl)
/-- all of them are -/
theorem loop_done {a P : Addr} {its : Array Value} {na c i b : Nat} {oa : Obj} {done : List (PySem.Str × Tok)} {T : PySem.Str} (hv : its[i]? = none) (g : Grow hb s.heap) (ha : hb.get? a = some oa) (hda : oa.data = .seq its na) (hP : s.heap.get? P = some (partsObj (strValues done).toArray c))
    (hT : listText (done.map (·.1)) = T) (hl : T.length ≤ sizeLine) (hR : ∀ u tk, R (.ok (.ret (.str T u))) { s with toks := tk }) :
    codeAny (model prog w) A (.builtin "list.__repr__.loop" ⟨[.ref a, rawInt (i : Int), .ref P, rawInt (b : Int)], []⟩) R s := by
  subst hT
  refine codeAny_builtin F.entry_list_repr_loop ?_
  show wpAny _ _ («list.__repr__.loop» ⟨[.ref a, .int i 0, .ref P, .int (b : Int) 0], []⟩) _ _ s
  rw [repr_loop_tree]
  refine wpAny_bind (wpAny_listItems (g _ _ ha) hda ?_)
  simp only [Int.toNat_natCast, hv]
  unfold reprEnd
  refine wpAny_bind (wpAny_listItems hP rfl ?_)
  rw [show (strValues done).toArray.toList = strValues done by simp, repr_fold]
  refine wpAny_bind (wpAny_pure ?_)
  exact wpAny_bind (wpAny_mkStr (wpAny_pure (hR _ _)) hl)
/-- a list of two is written -/
theorem two_told {a : Addr} {na base : Nat} {v1 v2 : Value} {t1 t2 : PySem.Str} {oa : Obj} (r1 : RepI prog w hb v1 t1) (r2 : RepI prog w hb v2 t2) (ha : hb.get? a = some oa) (hda : oa.data = .seq #[v1, v2] na) (a1 : A.handled = none) (a2 : A.guards = some []) (a3 : A.depth ≤ 800) (a4 : A.units ≤ 4100) (g : Grow hb s.heap)
    (l1 : t1.length ≤ 100000) (l2 : t2.length ≤ 100000) (hbs : base ≤ 2000000)
    (hR : ∀ h' u tk, Grow s.heap h' → R (.ok (.ret (.str (listText [t1, t2]) u))) { s with heap := h', toks := tk }) :
    wpAny (model prog w) A.in1 (Builtin.listReprAt base ⟨[.ref a], []⟩) (fun fin s' => match fin with | .done f => R (.ok f) s' | .again c' => c'.quiet = true ∧ codeAny (model prog w) A c' R s') (fun e s' => R (.error e) s') s := by
  have hz := sizeLine_eq
  have hP0 : hb.get? s.heap.objs.size = none := by
    cases e : hb.get? s.heap.objs.size with
    | none => rfl
    | some o => exact absurd (Heap.lt_size (g _ _ e)) (Nat.lt_irrefl _)
  refine wpAny_list_repr_head (A := A.in1) a2 (fun v rest kw hm => nomatch hm) (g _ _ ha) (x := v1) (l := [v2]) hda ?_
  refine wpAny_bind (m := newList []) (wpAny_newObj_type ?_)
  refine wpAny_pure ⟨F.quiet_list_repr_loop _, ?_⟩
  refine loop_item (i := 0) (its := #[v1, v2]) (v := v1) (acc := #[]) rfl r1 a1 a3 a4 (fun b o e => Heap.get?_push_of_some _ (g _ _ e)) hP0 ha hda (Heap.get?_push_size _ rfl) (by omega) (by decide) fun h1 k1 c1 g1 q1 p1 => ?_
  refine loop_item (i := 1) (its := #[v1, v2]) (v := v2) rfl r2 a1 a3 a4 g1 hP0 ha hda p1 (by omega) (by simp) fun h2 k2 c2 g2 q2 p2 => ?_
  refine loop_done (i := 2) (its := #[v1, v2]) (done := [(t1, k1), (t2, k2)]) rfl g2 ha hda p2 rfl ?_ fun u tk => hR _ _ _ fun b o e => ?_
  · have h := textFrom_len [t1, t2] 0 "["
    show (textFrom 0 "[" [t1, t2] ++ "]").length ≤ _
    rw [strLen_append]
    have e1 : (textFrom 0 "[" [t1, t2]).length ≤ 200100 := by
      show ((("[" : PySem.Str) ++ (if (0 : Nat) > 0 then ", " else "" : String) ++ t1) ++ (if (0 : Nat) + 1 > 0 then ", " else "" : String) ++ t2).length ≤ _
      simp only [strLen_append]
      have x1 : (PySem.Str.ofString "[").length = 1 := rfl
      have x2 : (PySem.Str.ofString (if (0 : Nat) > 0 then ", " else "" : String)).length = 0 := rfl
      have x3 : (PySem.Str.ofString (if (0 : Nat) + 1 > 0 then ", " else "" : String)).length = 2 := rfl
      omega
    have e2 : (PySem.Str.ofString "]").length = 1 := rfl
    omega
  · have hne : b ≠ s.heap.objs.size := Nat.ne_of_lt (Heap.lt_size e)
    exact q2 b o hne (q1 b o hne (Heap.get?_push_of_some _ e))
theorem rep_list2 {a : Addr} {na : Nat} {v1 v2 : Value} {t1 t2 : PySem.Str} {oa : Obj} (r1 : RepI prog w hb v1 t1) (r2 : RepI prog w hb v2 t2) (ha : hb.get? a = some oa) (hc : oa.cls = .type "list") (hda : oa.data = .seq #[v1, v2] na)
    (l1 : t1.length ≤ 100000) (l2 : t2.length ≤ 100000) (hl : (listText [t1, t2]).length ≤ 1000000) : Rep prog w hb (.ref a) (listText [t1, t2]) := by
  have hz := sizeLine_eq
  have direct : ∀ (A : Around) (s : Shared) (Q E : Value → Shared → Prop), A.handled = none → A.guards = some [] → A.depth ≤ 800 → A.units ≤ 4100 → Grow hb s.heap →
      (∀ h' u tk, Grow s.heap h' → Q (.str (listText [t1, t2]) u) { s with heap := h', toks := tk }) → wpAny (model prog w) A (PySem.call (.builtin "list.__repr__") [.ref a]) Q E s := fun A s Q E a1 a2 a3 a4 g h =>
    wpAny_call (codeAny_call_builtin F.slot_list_repr.plain F.entry_list_repr (F.slot_list_repr.check _ _ _ _ _ _ _ _ ⟨oa, g _ _ ha, hc⟩ (F.args_list_repr_1 _)
      (two_told (base := 0) (R := callEnd Q E) r1 r2 ha hda a1 a2 a3 a4 g l1 l2 (by decide) h)))
  refine ⟨fun A s Q E a1 a2 a3 a4 g h => ?_, fun A s Q E a1 a2 a3 a4 g h => ?_, fun m hm A s Q E a1 a2 a3 a4 g h => ?_, hl⟩
  · have hTy : s.TypeIs (.ref a) "list" := ⟨oa, g _ _ ha, hc⟩
    refine Calls.call_function_entry PySem.F.kind_repr PySem.F.plain_repr PySem.F.entry_repr (PySem.F.args_repr1 _) ?_
    unfold Builtin.«repr»
    refine wpAny_bind (m := oneArg "repr" _) (wpAny_pure ?_)
    refine wpAny_bind (wpAny_cRoomFor (units_ok (Nat.succ_le_succ a4) (by decide +kernel)) ?_)
    refine wpAny_bind (wpAny_specialOf (name := PySem.Str.ofString "__repr__") hTy F.slot_list_repr.lookup ?_)
    refine wpAny_bind (m := callSpecialIfBound? (.ref a) (PySem.Str.ofString "__repr__") _) (wpAny_callSpecialIfBound?_slot (name := PySem.Str.ofString "__repr__") hTy F.slot_list_repr
      (direct _ _ _ _ a1 a2 a3 (Nat.le_trans (Nat.succ_le_succ a4) (by decide)) g fun h' u tk g' => ?_))
    exact wpAny_bind (wpAny_isInstance (T := "str") (b := true) rfl isSubtype_str_str (wpAny_pure ⟨_, rfl, h h' u tk g'⟩))
  · have hTy : s.TypeIs (.ref a) "list" := ⟨oa, g _ _ ha, hc⟩
    unfold pyReprObj
    refine wpAny_bind (wpAny_cRoomFor (units_ok a4 (by decide +kernel)) ?_)
    refine wpAny_bind (wpAny_specialOf (name := PySem.Str.ofString "__repr__") hTy F.slot_list_repr.lookup ?_)
    refine wpAny_bind (m := callSpecialIfBound? (.ref a) (PySem.Str.ofString "__repr__")) (wpAny_callSpecialIfBound?_slot (name := PySem.Str.ofString "__repr__") hTy F.slot_list_repr
      (direct _ _ _ _ a1 a2 a3 (Nat.le_trans a4 (by decide)) g fun h' u tk g' => ?_))
    exact wpAny_bind (wpAny_isInstance (T := "str") (b := true) rfl isSubtype_str_str (wpAny_pure (h h' u tk g')))
  · exact wpAny_pyReprObjUnder_twin (twin := "list.__repr__.under") ⟨oa, g _ _ ha, hc⟩ F.slot_list_repr.toG rfl (units_ok a4 (by decide +kernel))
      (call_twin_plain F.plain_list_repr_under F.entry_list_repr_under F.check_list_repr_under ⟨oa, g _ _ ha, hc⟩ F.slot_list_repr.toG (F.args_list_repr_1 _)
        (two_told (R := callEnd _ E) r1 r2 ha hda a1 a2 a3 (Nat.le_trans a4 (by decide)) g l1 l2 hm (fun h' u tk g' => ⟨⟨_, _, rfl⟩, h h' u tk g'⟩)))
end
end Mine
end
section
open PySem PySem.W PySem.Calls PyProof.Rows
set_option Elab.async false
set_option maxRecDepth 100000
set_option maxHeartbeats 4000000
namespace Mine
theorem kitAt_tup {h h' : Heap} {a : Addr} {its : Array Value} (x : IsTup h a its) (g : Grow h h') : KitAt a "tuple" h' := by
  obtain ⟨o, ho, hc, _⟩ := x
  exact ⟨o, g _ _ ho, hc⟩
theorem kitAt_list {h h' : Heap} {a : Addr} {its : Array Value} (x : h.IsList a its) (g : Grow h h') : KitAt a "list" h' := by
  obtain ⟨o, ho, hc, _⟩ := x
  exact ⟨o, g _ _ ho, hc⟩
end Mine
end
section
open PySem PySem.W PySem.Spec PySem.Calls PyProof.Rows PyProof.Rows.LCg
set_option Elab.async false
set_option maxRecDepth 100000
set_option maxHeartbeats 4000000
namespace Mine
/-- the source of a comprehension is a tuple that stood ahead of the frame -/
def SrcT (prog : Program) (w : World) (A : Around) (h₀ : Heap) (L : Addr) (m : Str → Option Value) (env : Env) (elt : Expr) (x : Str) (scope : Scope) (cl : List (Str × Addr)) (Fin : Shared → List Value → List (Addr × Obj) → Prop) (xv : Value) (s₁ : Shared) : Prop :=
  ∃ ax its news, xv = .ref ax ∧ A.handled = none ∧ Fr h₀ L s₁.heap m ∧ News h₀ L s₁.heap news ∧ h₀.IsTuple ax its ∧ its.size ≤ sizeLine ∧
    ∀ g, CompRest prog w A h₀ L m env elt x scope cl { s₁ with heap := g } (fun _ => True) (fun i v => its[i]? = some v) (Fin { s₁ with heap := g }) its.size 0 [] news
section
variable {prog : Program} {w : World} {A : Around} {E : Value → Shared → Prop} {s : Shared} {h₀ : Heap} {L : Addr} {m : Str → Option Value} {env : Env}
theorem srcT_base {elt : Expr} {x : Str} {scope : Scope} {cl : List (Str × Addr)} {Fin : Shared → List Value → List (Addr × Obj) → Prop} {ax : Addr} {its : Array Value} {news : List (Addr × Obj)} {s₁ : Shared}
    (hh : A.handled = none) (F : Fr h₀ L s₁.heap m) (N : News h₀ L s₁.heap news) (ht : IsTup h₀ ax its) (hsz : its.size ≤ sizeLine)
    (h : ∀ g, CompRest prog w A h₀ L m env elt x scope cl { s₁ with heap := g } (fun _ => True) (fun i v => its[i]? = some v) (Fin { s₁ with heap := g }) its.size 0 [] news) :
    SrcT prog w A h₀ L m env elt x scope cl Fin (.ref ax) s₁ := ⟨ax, its, news, rfl, hh, F, N, ht, hsz, h⟩
theorem ListComp_tup {elt iter : Expr} {x : Str} {px : Pos} {scope : Scope} {cl : List (Str × Addr)} {pos : Pos} {Q : Value → Shared → Prop} (F₀ : Fr h₀ L s.heap m)
    (hclos : closureFor scope env = pure cl) (hcell : ∀ y ∈ scope.names, y.2 ≠ .cell) (hkind : scope.kind = .function)
    (hnames : ∀ y ∈ scope.names, y.2 = .local → scope.names.lookup y.1 = some .local) (hx : scope.names.lookup x = some .local)
    (h : wpAny (model prog w) A (eval iter env) (SrcT prog w A h₀ L m env elt x scope cl (fun s₂ => FinE h₀ L m s₂ Q)) E s)
    (hs : ∀ x, foldedSetIterable iter env x = pure x := by intro _; rfl) :
    wpAny (model prog w) A (eval (.ListComp elt [⟨.Name x px, iter, [], 0⟩] scope pos) env) Q E s := by
  rw [eval_ListComp]
  refine wpAny_comprehension_free (use := none) rfl hs hclos hkind hnames (wpAny_mono h (fun xv s₁ h₁ => ?_) fun _ _ e => e)
  obtain ⟨ax, its, news, rfl, hh, F, N, ht, hsz, R⟩ := h₁
  have hl : s₁.heap.IsTuple ax its := by
    obtain ⟨o, e, r⟩ := ht
    exact ⟨o, F.keep _ _ e, r⟩
  have hlt : ax < s₁.heap.objs.size := by obtain ⟨_, e, _⟩ := hl; exact Heap.lt_size e
  have up : ∀ b o, s₁.heap.get? b = some o → (s₁.heap.push { cls := .type "tuple_iterator", data := .fields #[.ref ax, .int 0 0] }).get? b = some o := fun b o e => Heap.get?_push_of_some _ e
  refine wpAny_pyIter_tuple hl ?_
  refine block_U (S := fun _ => True) (Walks.tuple hh s₁.heap.objs.size ax (Nat.ne_of_lt hlt) its) hsz (fun i h st => by obtain ⟨o, e, _⟩ := st.1; exact ⟨o, e⟩) ?_ hcell hkind hx ⟨⟨_, Heap.get?_push_size _ rfl, rfl, rfl⟩, hl.push _⟩ (fun b hb => ?_)
    (F.keeps up) (N.grown up) (Nat.ne_of_lt F.ns.lt) (next_is_new F) (fun p hp => Nat.ne_of_lt (Heap.lt_size (N p hp).1)) trivial (R _) ?_
  · intro i h h' o nw st e e' k _ _
    refine ⟨?_, ?_⟩
    · obtain ⟨o', q, r⟩ := st.1
      rw [e] at q; cases q
      exact ⟨o, e', r⟩
    · obtain ⟨o', q, r⟩ := ht
      exact ⟨o', k _ _ q, r⟩
  · show b < (s₁.heap.push _).objs.size
    rw [Heap.size_push]
    rcases List.mem_cons.mp hb with rfl | hb
    · exact Nat.lt_succ_self _
    · rw [List.mem_singleton.mp hb]; exact Nat.lt_succ_of_lt hlt
  · intro D C h tk m' ys news' F' N' o1 hn hC₀ hD₀ hCL hDL hCD offC fin
    refine ⟨m', hn, fun h'' hs'' => fin D h'' tk (F'.change hs'' hCL hC₀) (fun p hp => ?_) o1⟩
    refine ⟨hs''.extBut _ _ ?_ (N' p hp).1, (N' p hp).2⟩
    rcases List.mem_cons.mp hp with rfl | hp
    · exact Ne.symm hCD
    · exact offC p hp
end
end Mine
namespace Mine
theorem jl1 (a b : Str) : (Txt.join a [b]).length = b.length := by
  unfold Txt.join
  rw [StrLaws.glued_eq_join]
  rfl
theorem jl2 (a b c : Str) : (Txt.join a [b, c]).length = b.length + a.length + c.length := by
  unfold Txt.join
  rw [StrLaws.glued_eq_join]
  show (b ++ a ++ Str.join a [c]).length = _
  rw [PySem.Str.length_append, PySem.Str.length_append]
  rfl
end Mine
end
section
open PySem PySem.W PySem.Calls PyProof.Rows
set_option Elab.async false
set_option maxRecDepth 100000
set_option maxHeartbeats 4000000
namespace Mine
/-- around, with whatever guards -/
def AN (d u : Nat) : Around := { handled := none, depth := d, frames := none, guards := none, units := u }
theorem weakenN {α : Type} {M : Model} {A : Around} {d u : Nat} {t : Sem α} {Q : α → Shared → Prop} {E : Value → Shared → Prop} {s : Shared} (h1 : A.handled = none) (h2 : A.depth ≤ d) (h3 : A.units ≤ u) (h : wpAny M (AN d u) t Q E s) : wpAny M A t Q E s :=
  fun Γ p hΓ => h Γ p ⟨hΓ.1.trans h1, Nat.le_trans hΓ.2.1 h2, (by intro _ e; cases e), (by intro g e; cases e), Nat.le_trans hΓ.2.2.2.2 h3⟩
/-- an attribute of an object reads so -/
def Gets (prog : Program) (w : World) (h : Heap) (e : Addr) (name : Str) (v : Value) : Prop := ∀ (A : Around) (s : Shared) (Q E : Value → Shared → Prop) (expr : Bool), Grow h s.heap → Q v { s with toks := s.toks + 1 } → wpAny (model prog w) A (getAttr (.ref e) name expr) Q E s
/-- str of an object -/
def StrOk (prog : Program) (w : World) (h : Heap) (e : Addr) (t : Str) : Prop := ∀ (A : Around) (s : Shared) (Q E : Value → Shared → Prop), A.handled = none → A.depth ≤ 850 → A.units ≤ 4200 → Grow h s.heap →
  (∀ h' u tk, Grow s.heap h' → Q (.str t u) { s with heap := h', toks := tk }) → wpAny (model prog w) A (call (.type "str") [.ref e]) Q E s
def clsB (K : Frag) (C f : Addr) : Bool := excGet K C && hasDictIn K C && (clsIn K C).isSome && (findIn K (.ref C) "args" == some (some (.builtin "BaseException.args"))) && (specialIn K (.builtin "BaseException.args") "__get__" == some (some (.builtin "getset_descriptor.__get__"))) && (takesIn K (.builtin "BaseException.args") == some true) && (findIn K (.ref C) "__str__" == some (some (.ref f))) && (findIn K (.ref C) "__repr__" == some (some (.ref f))) && isFn K (.ref f)
def nameB (K : Frag) (C : Addr) (name : Str) : Bool := match findIn K (.ref C) name with
  | some attr => noGet K attr
  | none => false
section
variable {prog : Program} {w : World} {A : Around} {E : Value → Shared → Prop} {s : Shared} {h₀ h h' : Heap} {L e d ta C f : Addr} {od : Obj} {m : Str → Option Value} {news : List (Addr × Obj)} {v : Value} {name t : Str} {Q : Value → Shared → Prop} {K : Frag}
theorem Gets.grow (g : Gets prog w h e name v) (k : Grow h h') : Gets prog w h' e name v := fun A s Q E x a b => g A s Q E x (k.trans a) b
theorem StrOk.grow (g : StrOk prog w h e t) (k : Grow h h') : StrOk prog w h' e t := fun A s Q E a b c d x => g A s Q E a b c (k.trans d) x
theorem gets_use {expr : Bool} (g : Gets prog w h₀ e name v) (F : Fr h₀ L s.heap m) (q : Q v { s with toks := s.toks + 1 }) : wpAny (model prog w) A (getAttr (.ref e) name expr) Q E s := g A s Q E expr F.keep q
theorem gets_field (X : K.In h) (he : h.get? e = some (excObj C (some d) ta)) (hd : h.get? d = some od) (c : clsB K C f = true) (n : nameB K C name = true) (hl : lookIn name od = some (some v)) (hv : handedIn v = true) : Gets prog w h e name v := by
  intro A s Q E x g q
  simp only [clsB, Bool.and_eq_true] at c
  unfold nameB at n
  split at n
  · rename_i attr ha
    exact exc_get (X.keeps g) ⟨g _ _ he, rfl, rfl, g _ _ hd⟩ c.1.1.1.1.1.1.1.1 (findObj_own c.1.1.1.1.1.1.1.2 ha n hl) hv q
  · cases n
theorem gets_args (X : K.In h) (he : h.get? e = some (excObj C (some d) ta)) (hd : h.get? d = some od) (c : clsB K C f = true) : Gets prog w h e "args" (.ref ta) := by
  intro A s Q E x g q
  simp only [clsB, Bool.and_eq_true, beq_iff_eq] at c
  exact exc_get_args (X.keeps g) ⟨g _ _ he, rfl, rfl, g _ _ hd⟩ c.1.1.1.1.1.1.1.1 (findObj_data c.1.1.1.1.1.1.2 c.1.1.1.1.1.2 c.1.1.1.1.2 c.1.1.1.2) q
theorem strOk_of (X : K.In h) (he : h.get? e = some (excObj C (some d) ta)) (hd : h.get? d = some od) (c : clsB K C f = true) (tl : Tells prog w h f e t) : StrOk prog w h e t := by
  intro A s Q E a1 a3 a4 g q
  simp only [clsB, Bool.and_eq_true, beq_iff_eq] at c
  exact kso_call (od := some od) (units_ok (Nat.add_le_add_right a4 2) (by decide +kernel)) (X.keeps g) ⟨g _ _ he, rfl, rfl, g _ _ hd⟩ c.1.1.2 c.2 (tl _ _ _ _ a1 (Nat.le_trans a3 (by decide)) (Nat.le_trans (Nat.add_le_add_right a4 2) (by decide)) g fun h' u tk g' => q h' u tk g')
theorem repErr_of (X : K.In h) (he : h.get? e = some (excObj C (some d) ta)) (hd : h.get? d = some od) (c : clsB K C f = true) (tl : Tells prog w h f e t) (hl : t.length ≤ 1000000) : Rep prog w h (.ref e) t := by
  simp only [clsB, Bool.and_eq_true, beq_iff_eq] at c
  exact rep_inst (od := some od) X ⟨he, rfl, rfl, hd⟩ c.1.2 c.2 tl hl
theorem str_use (c : StrOk prog w h₀ e t) (F : Fr h₀ L s.heap m) (N : News h₀ L s.heap news) (h1 : A.handled = none) (h3 : A.depth ≤ 850) (h4 : A.units ≤ 4200)
    (q : ∀ h' u tk, Fr h₀ L h' m → News h₀ L h' news → Q (.str t u) { s with heap := h', toks := tk }) : wpAny (model prog w) A (call (.type "str") [.ref e]) Q E s :=
  c A s Q E h1 h3 h4 F.keep fun h' u tk g => q h' u tk (fr_grow F g) (news_grow N g)
end
end Mine
end
section
open PySem PySem.W PySem.Calls PyProof.Rows
set_option Elab.async false
set_option maxRecDepth 100000
set_option maxHeartbeats 4000000
namespace Mine
theorem sapp (a b c : Str) : a ++ b ++ c = a ++ (b ++ c) := by
  have e : (a ++ b ++ c).cps = (a ++ (b ++ c)).cps := by simp only [PySem.Str.cps_append, Array.append_assoc]
  exact congrArg PySem.Str.mk e
theorem tj0 (l : List Str) : Txt.join (Str.ofString "") l = Str.join (Str.ofString "") l := by
  unfold Txt.join
  rw [StrLaws.glued_eq_join]
theorem tj1 (x : Str) : Txt.join (Str.ofString "") [x] = x := by rw [tj0]; rfl
theorem tjc (x y : Str) (r : List Str) : Txt.join (Str.ofString "") (x :: y :: r) = x ++ Txt.join (Str.ofString "") (y :: r) := by
  rw [tj0, tj0]
  show x ++ Str.ofString "" ++ Str.join (Str.ofString "") (y :: r) = _
  rw [KFm.cat_t]
theorem lit_s : Str.ofString "]: " ++ Str.ofString "section " = Str.ofString "]" ++ Str.ofString ": section " := by decide +kernel
theorem lit_o : Str.ofString "]: " ++ Str.ofString "option " = Str.ofString "]" ++ Str.ofString ": option " := by decide +kernel
theorem tx60a (r : Str) : Txt.join (Str.ofString "") [Str.ofString "Section ", r, Str.ofString " already exists"] = Str.ofString "Section " ++ (r ++ Str.ofString " already exists") := by
  simp only [tjc, tj1]
theorem tx80a (o r : Str) : Txt.join (Str.ofString "") [Str.ofString "Option ", o, Str.ofString " in section ", r, Str.ofString " already exists"] = Str.ofString "Option " ++ (o ++ Str.ofString " in section " ++ (r ++ Str.ofString " already exists")) := by
  simp only [tjc, tj1, sapp]
theorem tx60b (rc r : Str) (n : Int) : Txt.join (Str.ofString "") [Str.ofString "While reading from ", rc, lineText n, Str.ofString ": section ", r, Str.ofString " already exists"] =
    Str.ofString "While reading from " ++ rc ++ Str.ofString " [line " ++ fig2 n ++ Str.ofString "]: " ++ Str.ofString "section " ++ (r ++ Str.ofString " already exists") := by
  rw [sapp _ (Str.ofString "]: "), lit_s]
  simp only [tjc, tj1, sapp, lineText]
theorem tx80b (rc o r : Str) (n : Int) : Txt.join (Str.ofString "") [Str.ofString "While reading from ", rc, lineText n, Str.ofString ": option ", o, Str.ofString " in section ", r, Str.ofString " already exists"] =
    Str.ofString "While reading from " ++ rc ++ Str.ofString " [line " ++ fig2 n ++ Str.ofString "]: " ++ Str.ofString "option " ++ (o ++ Str.ofString " in section " ++ (r ++ Str.ofString " already exists")) := by
  rw [sapp _ (Str.ofString "]: "), lit_o]
  simp only [tjc, tj1, sapp, lineText]
end Mine
end
section
open PySem PySem.W PySem.Calls PyProof.Rows
set_option Elab.async false
set_option maxRecDepth 100000
set_option maxHeartbeats 1000000
namespace Mine
def Inv05 (pre : List Int) (line : Int) (figures : Str) : Prop := 0 ≤ line ∧ figures.length ≤ pre.length ∧ line < 10 ^ pre.length ∧ (pre ≠ [] → figures = Str.ofString (toString line)) ∧ (pre = [] → line = 0)
theorem inv05_0 : Inv05 [] 0 (Str.ofString "") := ⟨by decide, by decide, by decide, fun h => absurd rfl h, fun _ => rfl⟩
theorem item_fig : ∀ d : Fin 10, Txt.item (Str.ofString "0123456789") (d.val : Int) = ⟨#[48 + d.val]⟩ := by decide +kernel
theorem dig_fig : ∀ d : Fin 10, (Nat.toDigits 10 d.val).map Char.toNat = [48 + d.val] := by decide +kernel
theorem fig_step {m d : Nat} (hm : 0 < m) (hd : d < 10) : Str.ofString (toString (Int.ofNat m)) ++ (⟨#[48 + d]⟩ : Str) = Str.ofString (toString (Int.ofNat (m * 10 + d))) := by
  rw [text_ofNat, text_ofNat, Nat.mul_comm m 10, ← Nat.toDigits_append_toDigits (by decide) hm hd, List.map_append, dig_fig ⟨d, hd⟩]
  apply congrArg PySem.Str.mk
  simp
theorem fig_one {d : Nat} (hd : d < 10) : (⟨#[48 + d]⟩ : Str) = Str.ofString (toString (Int.ofNat d)) := by
  rw [text_ofNat, dig_fig ⟨d, hd⟩]
theorem step05 {pre : List Int} {line : Int} {figures fig : Str} {n : Int} (hI : Inv05 pre line figures) (h1 : line = 0 → fig = Str.ofString "") (h2 : line ≠ 0 → fig = figures) : Inv05 (pre ++ [n]) (line * 10 + (if n < 0 then -n else n).fmod 10) (fig ++ Txt.item (Str.ofString "0123456789") ((if n < 0 then -n else n).fmod 10)) := by
  obtain ⟨i1, i2, i3, i4, i5⟩ := hI
  have d0 := Int.fmod_nonneg_of_pos (if n < 0 then -n else n) (b := 10) (by decide)
  have d1 := Int.fmod_lt_of_pos (if n < 0 then -n else n) (b := 10) (by decide)
  generalize (if n < 0 then -n else n).fmod 10 = d at *
  obtain ⟨d, rfl⟩ := Int.eq_ofNat_of_zero_le d0
  have hd : d < 10 := by omega
  rw [item_fig ⟨d, hd⟩]
  obtain ⟨m, rfl⟩ := Int.eq_ofNat_of_zero_le i1
  have hl : (⟨#[48 + d]⟩ : Str).length = 1 := rfl
  refine ⟨by omega, ?_, ?_, fun _ => ?_, fun h => by simp at h⟩
  · rw [PySem.Str.length_append, hl, List.length_append]
    by_cases hm : (m : Int) = 0
    · rw [h1 hm]
      have h0 : (Str.ofString "").length = 0 := rfl
      simp [h0]
    · rw [h2 hm]; simpa using i2
  · rw [List.length_append, List.length_singleton, Int.pow_succ]; omega
  · by_cases hm : (m : Int) = 0
    · rw [h1 hm, hm]
      have e0 : Str.ofString "" = PySem.Str.empty := rfl
      rw [e0, KFm.cat_e]
      have := fig_one hd
      simpa using this
    · have hp : pre ≠ [] := fun e => hm (i5 e)
      rw [h2 hm, i4 hp]
      have := fig_step (m := m) (by omega) hd
      simpa using this
theorem nd_pos {m : Nat} : numDigits (Int.ofNat m) = (Nat.toDigits 10 m).map Char.toNat := by
  unfold numDigits
  rw [if_neg (by simp)]
  rfl
theorem mul_sp (k : Int) (hk : k ≤ 2) : Txt.mul (Str.ofString " ") k = ⟨(List.replicate k.toNat 32).toArray⟩ := by
  by_cases h0 : k < 1
  · have : k.toNat = 0 := by omega
    rw [this]; unfold Txt.mul; rw [if_pos h0]; rfl
  · rcases (by omega : k = 1 ∨ k = 2) with rfl | rfl
    · rfl
    · rfl
theorem told05 {pre : List Int} {line : Int} {fig : Str} {n : Int} (hI : Inv05 (pre ++ [n]) line fig) : Txt.mul (Str.ofString " ") (2 - (fig.length : Int)) ++ fig = fig2 line := by
  obtain ⟨i1, i2, i3, i4, i5⟩ := hI
  have hf := i4 (by simp)
  obtain ⟨m, rfl⟩ := Int.eq_ofNat_of_zero_le i1
  have hf' : fig = ⟨((Nat.toDigits 10 m).map Char.toNat).toArray⟩ := hf.trans (text_ofNat m)
  have hl : fig.length = ((Nat.toDigits 10 m).map Char.toNat).length := by rw [hf']; simp [PySem.Str.length]
  rw [mul_sp _ (by omega), hl, hf']
  unfold fig2
  rw [show numDigits (m : Int) = _ from nd_pos]
  apply congrArg PySem.Str.mk
  have e : (2 - (((Nat.toDigits 10 m).map Char.toNat).length : Int)).toNat = 2 - ((Nat.toDigits 10 m).map Char.toNat).length := by omega
  rw [e]
  simp
theorem numDigits_len {n : Int} (h : n.natAbs < 10 ^ 41) : (numDigits n).length ≤ 42 := by
  have h1 := digits10_le (k := 41) (by decide) h
  unfold numDigits
  rw [List.length_append, List.length_map]
  split <;> simp <;> omega
theorem fig2_len {n : Int} (h : n.natAbs < 10 ^ 41) : (fig2 n).length ≤ 44 := by
  have h1 := numDigits_len h
  unfold fig2
  simp only [PySem.Str.length, List.size_toArray, List.length_append, List.length_replicate]
  omega
theorem log2_ok {n : Int} (h : n.natAbs < 10 ^ 41) : n.natAbs.log2 < 1920 := by
  by_cases h0 : n.natAbs = 0
  · rw [h0]; decide
  · exact Nat.lt_of_lt_of_le ((Nat.log2_lt h0).mpr (Nat.lt_trans h (by decide : 10 ^ 41 < 2 ^ 200))) (by decide)
theorem abs05 {pre : List Int} {line : Int} {fig : Str} {n : Int} (hp : pre.length ≤ 40) (hI : Inv05 (pre ++ [n]) line fig) : line.natAbs < 10 ^ 41 := by
  obtain ⟨i1, _, i3, _, _⟩ := hI
  have h1 : (10 : Int) ^ (pre ++ [n]).length ≤ 10 ^ 41 := by
    have : (10 : Nat) ^ (pre ++ [n]).length ≤ 10 ^ 41 := Nat.pow_le_pow_right (by decide) (by simp; omega)
    exact_mod_cast this
  have h2 := Int.lt_of_lt_of_le i3 h1
  have h3 : ((line.natAbs : Nat) : Int) < ((10 ^ 41 : Nat) : Int) := by
    rw [Int.natAbs_of_nonneg i1]; exact_mod_cast h2
  exact_mod_cast h3
theorem neg05 {pre : List Int} {line : Int} {fig : Str} {n : Int} (hI : Inv05 (pre ++ [n]) line fig) (h : 0 < line) : Str.ofString "-" ++ fig = fig2 (-line) := by
  obtain ⟨i1, i2, i3, i4, i5⟩ := hI
  have hf := i4 (by simp)
  obtain ⟨m, rfl⟩ := Int.eq_ofNat_of_zero_le i1
  have hf' : fig = ⟨((Nat.toDigits 10 m).map Char.toNat).toArray⟩ := hf.trans (text_ofNat m)
  have h1 := tDigits_len_ge 10 m
  have e : numDigits (-(m : Int)) = 45 :: (Nat.toDigits 10 m).map Char.toNat := by
    unfold numDigits
    rw [if_pos (by omega), Int.natAbs_neg, Int.natAbs_natCast]; rfl
  unfold fig2
  rw [e, hf', show 2 - (45 :: (Nat.toDigits 10 m).map Char.toNat).length = 0 by simp; omega]
  apply congrArg PySem.Str.mk
  simp
  rfl
theorem zero05 : Str.ofString " 0" = fig2 0 := by decide +kernel
end Mine
end
section
open PySem PySem.W PySem.Calls PyProof.Rows
set_option Elab.async false
set_option maxRecDepth 100000
set_option maxHeartbeats 4000000
set_option linter.unusedVariables false
namespace Mine
def cls06 : List Addr := [59, 79, 99, 118, 156, 175]
/-- what an error of the ledger bears at a place -/
def Holds (new : List (Addr × Obj)) (xs : List Value) (place : Nat) (v : Value) : Prop := xs[place]? = some v ∨ ∃ tp ts, xs[place]? = some (.ref tp) ∧ (tp, tupObj [v, ts]) ∈ new
def ErrIn (new : List (Addr × Obj)) (e : Addr) (msg : Str) (place : Nat) (v : Value) : Prop :=
  ∃ C d ta od u xs, C ∈ cls06 ∧ (e, excObj C (some d) ta) ∈ new ∧ (d, od) ∈ new ∧ (ta, tupObj xs) ∈ new ∧ lookIn (Str.ofString "message") od = some (some (.str msg u)) ∧ Holds new xs place v ∧ xs.length ≤ 10
structure BearC (h h' : Heap) (e : Addr) (wl : Str) (l e2 : Addr) (hd tl : Str) (place : Nat) (t1 t2 t3 : Tok) (n : Nat) (new : List (Addr × Obj)) : Prop where
  hl : h'.get? l = some (listOf #[.ref e2, .str hd t1, .str tl t2, .ref e, .int (place : Int) t3] n)
  nl : h.get? l = none
  hn : ∀ p ∈ new, h'.get? p.1 = some p.2 ∧ h.get? p.1 = none
  er : ErrIn new e2 (hd ++ (wl ++ tl)) place (.ref e)
  hlen : hd.length ≤ 300 ∧ tl.length ≤ 300
theorem ext6 {a b : Str} (h : a.cps.toList = b.cps.toList) : a = b := by
  cases a; cases b
  exact congrArg Str.mk (Array.toList_inj.mp h)
theorem cps6 (a b : Str) : (a ++ b).cps.toList = a.cps.toList ++ b.cps.toList := by simp [PySem.Str.cps_append]
section
variable {prog : Program} {w : World} {A : Around} {E : Value → Shared → Prop} {s : Shared} {h₀ : Heap} {L : Addr} {m : Str → Option Value} {news : List (Addr × Obj)} {Q : Value → Shared → Prop}
theorem gets_led6 {expr : Bool} {C e d ta f : Addr} {od : Obj} {name : Str} {v : Value} {K : Frag} (F : Fr h₀ L s.heap m) (X₀ : K.In h₀) (N : News h₀ L s.heap news) (h1 : (e, excObj C (some d) ta) ∈ news) (h2 : (d, od) ∈ news) (c : clsB K C f = true) (n : nameB K C name = true) (hl : lookIn name od = some (some v)) (hv : handedIn v = true)
    (q : Q v { s with toks := s.toks + 1 }) : wpAny (model prog w) A (getAttr (.ref e) name expr) Q E s := gets_field (X₀.keeps F.keep) (N _ h1).1 (N _ h2).1 c n hl hv A s Q E expr (Grow.refl _) q
theorem args_led6 {expr : Bool} {C e d ta f : Addr} {od : Obj} {K : Frag} (F : Fr h₀ L s.heap m) (X₀ : K.In h₀) (N : News h₀ L s.heap news) (h1 : (e, excObj C (some d) ta) ∈ news) (h2 : (d, od) ∈ news) (c : clsB K C f = true)
    (q : Q (.ref ta) { s with toks := s.toks + 1 }) : wpAny (model prog w) A (getAttr (.ref e) (Str.ofString "args") expr) Q E s := gets_args (X₀.keeps F.keep) (N _ h1).1 (N _ h2).1 c A s Q E expr (Grow.refl _) q
/-- the end of a walk that makes an error -/
theorem bear_end {h h' : Heap} {e wl l e2 hd tl} {place : Nat} {t1 t2 t3 n C d ta od u xs} {new : List (Addr × Obj)} {msg : Str} (N : News h L h' news) (hl : (l, listOf #[.ref e2, .str hd t1, .str tl t2, .ref e, .int (place : Int) t3] n) ∈ news) (hc : C ∈ cls06) (he : (e2, excObj C (some d) ta) ∈ new) (hd' : (d, od) ∈ new) (ht : (ta, tupObj xs) ∈ new)
    (hm : lookIn (Str.ofString "message") od = some (some (.str msg u))) (hmsg : msg.cps.toList = hd.cps.toList ++ (wl.cps.toList ++ tl.cps.toList)) (hh : Holds new xs place (.ref e)) (hx : xs.length ≤ 10) (sub : ∀ p ∈ new, p ∈ news) (hlen : hd.length ≤ 300 ∧ tl.length ≤ 300) : BearC h h' e wl l e2 hd tl place t1 t2 t3 n new := by
  have e1 : msg = hd ++ (wl ++ tl) := ext6 (by rw [cps6, cps6, hmsg])
  subst e1
  exact ⟨(N _ hl).1, (N _ hl).2.2, fun p hp => ⟨(N _ (sub p hp)).1, (N _ (sub p hp)).2.2⟩, ⟨C, d, ta, od, u, xs, hc, he, hd', ht, hm, hh, hx⟩, hlen⟩
end
end Mine
end
section
open PySem PySem.W PySem.Calls PyProof.Rows
set_option Elab.async false
set_option maxRecDepth 100000
set_option maxHeartbeats 4000000
namespace Mine
def pairText (wl : Str) : Str := Str.ofString "(" ++ (wl ++ Str.ofString ", 't')")
theorem pair_is (wl : Str) : tupleText [wl, reprText (Str.ofString "t")] = pairText wl := by
  have e : reprText (Str.ofString "t") = Str.ofString "'t'" := by decide +kernel
  rw [e]
  apply ext6
  show (Str.ofString "(" ++ (wl ++ Str.ofString ", " ++ Str.ofString "'t'") ++ Str.ofString ")").cps.toList = _
  unfold pairText
  simp only [cps6, List.append_assoc]
  generalize wl.cps.toList = W
  kernel_rfl
theorem rep_two {prog : Program} {w : World} {hb h h₀ : Heap} {L tp e : Addr} {u : Tok} {wl : Str} {news : List (Addr × Obj)} (N : News h₀ L h news) (hm : (tp, tupObj [.ref e, .str (Str.ofString "t") u]) ∈ news) (RI : RepI prog w hb (.ref e) wl) (hl : wl.length ≤ 1000) (g : Grow hb h) : Rep prog w h (.ref tp) (pairText wl) := by
  have hp : (pairText wl).length ≤ 1000000 := by
    have h1 : (Str.ofString "(").length = 1 := by decide +kernel
    have h2 : (Str.ofString ", 't')").length = 6 := by decide +kernel
    unfold pairText
    rw [PySem.Str.length_append, PySem.Str.length_append, h1, h2]
    omega
  have := rep_tup (prog := prog) (w := w) (its := #[.ref e, .str (Str.ofString "t") u]) (ts := [wl, reprText (Str.ofString "t")]) (N _ hm).1 rfl rfl (.cons (RI.mono g) (.cons (repI_str (by decide +kernel)) .nil)) (by rw [pair_is]; exact hp)
  rwa [pair_is] at this
end Mine
end
section
open PySem PySem.W PySem.Calls PyProof.Rows
set_option Elab.async false
set_option maxRecDepth 100000
set_option maxHeartbeats 4000000
namespace Mine
theorem line_dec : ∀ k : Fin 100, (lineText (k.val : Int)).cps.toList = (Str.ofString " [line ").cps.toList ++ ((if 9 < k.val then [] else (Str.ofString " ").cps.toList) ++ ((Str.ofString (toString (k.val : Int))).cps.toList ++ (Str.ofString "]").cps.toList)) ∧ (Str.ofString (toString (k.val : Int))).length ≤ 60 := by decide +kernel
theorem line_hi {n : Int} (h0 : 0 ≤ n) (h1 : n < 100) (h : 9 < n) : (lineText n).cps.toList = (Str.ofString " [line ").cps.toList ++ ((Str.ofString (toString n)).cps.toList ++ (Str.ofString "]").cps.toList) := by
  obtain ⟨k, rfl⟩ := Int.eq_ofNat_of_zero_le h0
  have := (line_dec ⟨k, by omega⟩).1
  simp only [if_pos (show 9 < k by omega), List.nil_append] at this
  exact this
theorem line_lo {n : Int} (h0 : 0 ≤ n) (h1 : n < 100) (h : n ≤ 9) : (lineText n).cps.toList = (Str.ofString " [line ").cps.toList ++ ((Str.ofString " ").cps.toList ++ ((Str.ofString (toString n)).cps.toList ++ (Str.ofString "]").cps.toList)) := by
  obtain ⟨k, rfl⟩ := Int.eq_ofNat_of_zero_le h0
  have := (line_dec ⟨k, by omega⟩).1
  simp only [if_neg (show ¬ 9 < k by omega)] at this
  exact this
theorem str6 {n : Int} (h0 : 0 ≤ n) (h1 : n < 100) : (Str.ofString (toString n)).length ≤ 60 := by
  obtain ⟨k, rfl⟩ := Int.eq_ofNat_of_zero_le h0
  exact (line_dec ⟨k, by omega⟩).2
theorem sl6 {a b : Str} {x y : Nat} (h : a.length ≤ x) (k : b.length ≤ y) : (a ++ b).length ≤ x + y := by
  rw [PySem.Str.length_append]; omega
end Mine
end
section
open PySem PySem.W PySem.Calls PyProof.Rows PyProof.V
set_option Elab.async false
set_option maxRecDepth 100000
set_option maxHeartbeats 1000000
namespace Mine
section
variable {prog : Program} {w : World} {A : Around} {E : Value → Shared → Prop} {s : Shared} {h₀ : Heap} {L : Addr} {Q : Value → Shared → Prop} {a b : Addr} {news : List (Addr × Obj)}
/-- two lists that read alike are not unequal -/
theorem ne_alike {xs ys : List Value} {ds : List PyData} {n1 n2 : Nat} {as bs : List Addr} (N : News h₀ L s.heap news) (ha : (a, listOf xs.toArray n1) ∈ news) (hb : (b, listOf ys.toArray n2) ∈ news) (rx : ReadsAll s.heap xs ds as) (ry : ReadsAll s.heap ys ds bs)
    (hs : SeqAt.shaped (.list ds) = true) (hu : A.units + 64 < cLine) (he : PyData.eqvAll ds ds = true) (h : Q (.bool false) s) : wpAny (model prog w) A (compareOp .NotEq (.ref a) (.ref b)) Q E s :=
  ne_dataH (reads_list_at (N.get ha) rfl rfl (by simpa using rx)) (reads_list_at (N.get hb) rfl rfl (by simpa using ry)) hs hs hu (by rw [show PyData.eqv (.list ds) (.list ds) = true by simpa [PyData.eqv] using he]; exact h)
theorem reads_tup {h : Heap} {t : Addr} {vs : List Value} {ds : List PyData} {as : List Addr} {h₀ : Heap} {L : Addr} {news : List (Addr × Obj)} (N : News h₀ L h news) (ht : (t, ({ cls := .type "tuple", data := .seq vs.toArray } : Obj)) ∈ news) (r : ReadsAll h vs ds as) : Reads h (.ref t) (.tuple ds) as :=
  reads_tuple_at (N.get ht) rfl rfl (by simpa using r)
end
theorem strOk_app (a b : Str) : PyData.strOk (a ++ b) = (PyData.strOk a && PyData.strOk b) := by
  unfold PyData.strOk
  rw [PySem.Str.cps_append, Array.all_append]
theorem strOk_fig (n : Int) : PyData.strOk (fig2 n) = true := by
  unfold PyData.strOk fig2 numDigits
  simp only [List.all_toArray, List.all_append, Bool.and_eq_true, List.all_eq_true]
  refine ⟨fun x hx => ?_, ?_, fun x hx => ?_⟩
  · rw [(List.mem_replicate.mp hx).2]; decide
  · split <;> simp
  · obtain ⟨c, _, rfl⟩ := List.mem_map.mp hx
    have := c.valid
    have h2 : c.toNat < 0x110000 := by
      rcases this with h | h
      · exact Nat.lt_of_lt_of_le h (by decide)
      · exact h.2
    simpa using h2
end Mine
end
section
open PySem PySem.W PySem.Calls PyProof.Rows
set_option Elab.async false
set_option maxRecDepth 100000
set_option maxHeartbeats 4000000
namespace Mine
section
variable {prog : Program} {w : World} {A : Around} {E : Value → Shared → Prop} {s : Shared} {env : Env} {h₀ : Heap} {target : Expr} {body : List Stmt} {Q : Flow → Shared → Prop}
/-- a loop over a list of the ledger, by what holds of the frame; the ledger is kept -/
theorem turns_inv {ax : Addr} {vs : List Value} {nn : Nat} {m₀ : Str → Option Value} {news : List (Addr × Obj)} (J : (Str → Option Value) → Prop)
    (hh : A.handled = none) (hl : (ax, listOf vs.toArray nn) ∈ news) (F : Fr h₀ env.locals s.heap m₀) (N : News h₀ env.locals s.heap news) (hj : J m₀)
    (turn : ∀ v m₁ h tk own, v ∈ vs → J m₁ → Fr h₀ env.locals h m₁ → News h₀ env.locals h (news ++ own) →
      wpAny (model prog w) A (assign target env v) (fun _ s₃ => wpAny (model prog w) A (execs body env) (InvPost h₀ env.locals J (news ++ own) { s with heap := h, toks := tk } Q) E s₃) E { s with heap := h, toks := tk })
    (done : ∀ m₁ h tk, J m₁ → Fr h₀ env.locals h m₁ → News h₀ env.locals h news → Q .next { s with heap := h, toks := tk }) :
    wpAny (model prog w) A (pyIter (.ref ax)) (fun it s₂ => TurnsAt prog w A h₀ env target body Q E it s₂) E s := by
  have hol : s.heap.get? ax = some (listOf vs.toArray nn) := (N _ hl).1
  have hls : s.heap.IsList ax vs.toArray := ⟨_, hol, rfl, nn, rfl⟩
  have hne : ax ≠ s.heap.objs.size := Nat.ne_of_lt (Heap.lt_size hol)
  refine wpAny_pyIter_list hls ?_
  have W := KTurns.ofWalks (target := target) (Walks.list (prog := prog) (w := w) hh s.heap.objs.size ax hne vs.toArray) fun i v s Q E st q => letGo_listiter st.1 q
  refine ⟨_, _, _, _, _, _, _, m₀, news, (fun _ m nx => nx = news ∧ J m), rfl, W, ?_, ?_, ?_, ⟨⟨_, Heap.get?_push_size _ rfl, rfl, rfl⟩, hls.at fun o e => Heap.get?_push_of_some _ e⟩, F.push _, (fun p hp => ⟨Heap.get?_push_of_some _ (N p hp).1, (N p hp).2⟩), ⟨rfl, hj⟩, ?_, ?_⟩
  · intro hm
    rcases List.mem_cons.mp hm with e | hm
    · exact absurd F.ns.lt (e ▸ Nat.lt_irrefl _)
    · exact (N _ hl).2.1 ((List.mem_singleton.mp hm).symm)
  · intro b hb
    rw [List.mem_singleton.mp hb]
    exact next_is_new F
  · intro p hp hI
    exact absurd (Heap.lt_size (N p hp).1) ((List.mem_singleton.mp hI) ▸ Nat.lt_irrefl _)
  · rintro i v m₁ news₁ h₁ tk₁ own hin hP ⟨rfl, hJ⟩ hoff hown hget hall _ F₁ N₁
    have hP' : vs[i]? = some v := by simpa using hP
    have N₂ : News h₀ env.locals h₁ (news₁ ++ own) := fun p hp => N₁ p ((List.mem_append.mp hp).elim (fun h => List.mem_append.mpr (.inr h)) fun h => List.mem_append.mpr (.inl h))
    refine wpAny_mono (turn v m₁ h₁ tk₁ own (List.mem_of_getElem? hP') hJ F₁ N₂) (fun _ s₃ z => wpAny_mono z (fun f s₂ p => ?_) fun _ _ e => e) fun _ _ e => e
    have fin : InvEnd h₀ env.locals J (news₁ ++ own) { s with heap := h₁, toks := tk₁ } s₂ → LoopStepU h₀ env.locals [s.heap.objs.size] own (fun m nx => nx = news₁ ∧ J m) { s with heap := h₁, toks := tk₁ } .next s₂ := by
      rintro ⟨h', tk, m', news', e, F', N', hn, hm⟩
      exact ⟨rfl, h', tk, m', news₁, e, F', fun p hp => N' p (hn p ((List.mem_append.mp hp).elim (fun h => List.mem_append.mpr (.inr h)) fun h => List.mem_append.mpr (.inl h))), hoff, rfl, hm⟩
    cases f with
    | ret v => exact .ret p
    | brk => exact .brk p
    | next => exact .next (fin p)
    | cont => exact .cont (fin p)
  · rintro h' tk m' news' F' N' _ ⟨rfl, hJ⟩
    exact done m' h' tk hJ F' N'
theorem turns_keep {ax : Addr} {vs : List Value} {nn : Nat} {m₀ : Str → Option Value} {news : List (Addr × Obj)} (junk : List Str)
    (hh : A.handled = none) (hl : (ax, listOf vs.toArray nn) ∈ news) (F : Fr h₀ env.locals s.heap m₀) (N : News h₀ env.locals s.heap news)
    (turn : ∀ v m₁ h tk led, v ∈ vs → (∀ z, z ∉ junk → m₁ z = m₀ z) → (∀ p ∈ news, p ∈ led) → Fr h₀ env.locals h m₁ → News h₀ env.locals h led →
      wpAny (model prog w) A (assign target env v) (fun _ s₃ => wpAny (model prog w) A (execs body env) (InvPost h₀ env.locals (fun m' => ∀ z, z ∉ junk → m' z = m₀ z) led { s with heap := h, toks := tk } Q) E s₃) E { s with heap := h, toks := tk })
    (done : ∀ m₁ h tk, (∀ z, z ∉ junk → m₁ z = m₀ z) → Fr h₀ env.locals h m₁ → News h₀ env.locals h news → Q .next { s with heap := h, toks := tk }) :
    wpAny (model prog w) A (pyIter (.ref ax)) (fun it s₂ => TurnsAt prog w A h₀ env target body Q E it s₂) E s :=
  turns_inv (fun m' => ∀ z, z ∉ junk → m' z = m₀ z) hh hl F N (fun _ _ => rfl) (fun v m₁ h tk own hv hj F₁ N₁ => turn v m₁ h tk (news ++ own) hv hj (fun _ hp => List.mem_append_left _ hp) F₁ N₁) done
theorem fr_names {L : Addr} {h : Heap} {m₁ : Str → Option Value} (ps : List (Str × Value)) (hp : ∀ p ∈ ps, m₁ p.1 = some p.2) (F : Fr h₀ L h m₁) : Fr h₀ L h (kstB m₁ ps) := by
  have e : kstB m₁ ps = m₁ := funext fun z => kstB_eq hp fun _ => rfl
  rw [e]; exact F
theorem inv_end {L : Addr} {J : (Str → Option Value) → Prop} {m' : Str → Option Value} {need news' : List (Addr × Obj)} {h' : Heap} {tk : Nat} (F : Fr h₀ L h' m') (N : News h₀ L h' news') (hn : ∀ p ∈ need, p ∈ news') (hj : J m') : InvPost h₀ L J need s Q .next { s with heap := h', toks := tk } :=
  InvEnd.intro F N hn hj
end
end Mine
end
section
open PySem PySem.W PySem.Calls PyProof.Rows
set_option Elab.async false
set_option maxRecDepth 100000
set_option maxHeartbeats 4000000
namespace Mine
section
variable {prog : Program} {w : World} {A : Around} {E : Value → Shared → Prop} {s : Shared} {env : Env} {h₀ : Heap} {x : Str} {body : List Stmt} {Q : Flow → Shared → Prop}
/-- a loop over whole numbers that keeps the ledger and every name that it does not store -/
theorem loopK {l : Addr} {vs : List Value} {ns : List Int} {m₀ : Str → Option Value} {news : List (Addr × Obj)} (stored : List Str)
    (hh : A.handled = none) (hi : IntsAre vs ns) (F : Fr h₀ env.locals s.heap m₀) (N : News h₀ env.locals s.heap ((l, listOf vs.toArray 0) :: news))
    (turn : ∀ pre post n t (u : Str → Option Value) h tk own, ns = pre ++ n :: post → n ∈ ns →
      Fr h₀ env.locals h (fun y => if y = x then some (.int n t) else if stored.contains y then u y else m₀ y) → News h₀ env.locals h (((l, listOf vs.toArray 0) :: news) ++ own) →
      wpAny (model prog w) A (execs body env) (InvPostN h₀ env.locals (KstS (σ := Unit) (fun _ => (l, listOf vs.toArray 0) :: news) (fun _ => []) (fun _ => True) x stored m₀ (fun _ _ => True) (pre ++ [n])) own (((l, listOf vs.toArray 0) :: news).map (·.1)) { s with heap := h, toks := tk } Q) E { s with heap := h, toks := tk })
    (done : ∀ (m : Str → Option Value) h tk, Fr h₀ env.locals h m → Q .next { s with heap := h, toks := tk }) :
    wpAny (model prog w) A (pyIter (.ref l)) (fun it s₂ => LoopAtV prog w A h₀ env x body Q E it s₂) E s :=
  kst_listL (nn := 0) (σ := Unit) (fun _ => (l, listOf vs.toArray 0) :: news) (fun _ => []) (fun _ => True) stored (fun _ _ => True) () hh (fun _ => List.Mem.head _) hi F N trivial
    (List.forall_mem_nil _) trivial (fun c pre post n t u h tk own e1 e2 _ _ i f nw => turn pre post n t u h tk own e1 e2 f nw) (fun c u h tk _ _ f _ => done _ h tk f)
theorem turnK_end {l : Addr} {vs : List Value} {m₀ m' : Str → Option Value} {news news' own : List (Addr × Obj)} {stored : List Str} {L : Addr} {pre : List Int} {h' : Heap} {tk : Nat} (F : Fr h₀ L h' m') (N : News h₀ L h' news') (hsub : ∀ p ∈ ((l, listOf vs.toArray 0) :: news) ++ own, p ∈ news')
    (hm : ∀ z, z ≠ x → stored.contains z = false → m' z = m₀ z) :
    InvPostN h₀ L (KstS (σ := Unit) (fun _ => (l, listOf vs.toArray 0) :: news) (fun _ => []) (fun _ => True) x stored m₀ (fun _ _ => True) pre) own (((l, listOf vs.toArray 0) :: news).map (·.1)) s Q .next { s with heap := h', toks := tk } :=
  ⟨h', tk, m', news', _, rfl, F, N, fun p hp => hsub p (List.mem_append_left _ hp), fun p hp => hsub p (List.mem_append_right _ hp), rfl, (), rfl, trivial, List.forall_mem_nil _, fun z hz _ hs => hm z hz hs, trivial⟩
/-- a statement that leaves frame and ledger as they are -/
def JoinedS (h₀ : Heap) (L : Addr) (m : Str → Option Value) (news : List (Addr × Obj)) (s : Shared) (fl : Flow) (s' : Shared) : Prop := fl = .next ∧ ∃ h' tk, s' = { s with heap := h', toks := tk } ∧ Fr h₀ L h' m ∧ News h₀ L h' news
theorem joinS_ {M : Model} {L : Addr} {m : Str → Option Value} {news : List (Addr × Obj)} {t : Sem Flow} (F : Fr h₀ L s.heap m) (N : News h₀ L s.heap news) (h1 : wpAny M A t (JoinedS h₀ L m news s) E s)
    (h2 : ∀ h' tk, Fr h₀ L h' m → News h₀ L h' news → Q .next { s with heap := h', toks := tk }) : wpAny M A t Q E s :=
  wpAny_mono h1 (fun _ _ ⟨e, h', tk, e', F', N'⟩ => by subst e; subst e'; exact h2 h' tk F' N') fun _ _ z => z
theorem joinedS_ {L : Addr} {m : Str → Option Value} {news news' : List (Addr × Obj)} {h' : Heap} {tk : Nat} (F : Fr h₀ L h' m) (N : News h₀ L h' news') (hs : ∀ q ∈ news, q ∈ news') : JoinedS h₀ L m news s .next { s with heap := h', toks := tk } := ⟨rfl, h', tk, rfl, F, fun q hq => N q (hs q hq)⟩
theorem joinQ_ {M : Model} {L : Addr} {m : Str → Option Value} {news : List (Addr × Obj)} {t : Sem Flow} (F : Fr h₀ L s.heap m) (N : News h₀ L s.heap news)
    (h1 : ∀ Q' : Flow → Shared → Prop, (∀ h' tk, Fr h₀ L h' m → News h₀ L h' news → Q' .next { s with heap := h', toks := tk }) → wpAny M A t Q' E s)
    (h2 : ∀ h' tk, Fr h₀ L h' m → News h₀ L h' news → Q .next { s with heap := h', toks := tk }) : wpAny M A t Q E s := h1 Q h2
theorem post_gen {M : Model} {t : Sem Flow} (h : ∀ Q' : Flow → Shared → Prop, (∀ f s', Q f s' → Q' f s') → wpAny M A t Q' E s) : wpAny M A t Q E s := h Q fun _ _ z => z
end
end Mine
end
section
open PySem PySem.W PySem.Calls PyProof.Rows PySem.Builtin PySem.Builtin.ObjectAttr PySem.Builtin.Getset_descriptor
set_option Elab.async false
set_option maxRecDepth 100000
set_option maxHeartbeats 4000000
namespace Mine
section
variable {prog : Program} {w : World} {A : Around} {E : Value → Shared → Prop} {s : Shared} {K : Frag} {x C ta : Addr} {ox : Obj} {od : Option Obj} {name : Str} {Q : Option Value → Shared → Prop}
theorem exc_open? (X : K.In s.heap) (I : InstAt s.heap x ox C od) (hg : excGet K C = true)
    (h : codeAny (model prog w) A (.call (.builtin "BaseException.__getattribute__") ⟨[.ref x, .str name s.toks], []⟩) (fun r s' => match r with | .ok (.ret v) => wpAny (model prog w) A (handedOut v) (fun v s'' => Q (some v) s'') (fun _ _ => False) s' | _ => False) { s with toks := s.toks + 1 }) :
    wpAny (model prog w) A (getAttr? (.ref x) name) Q E s := by
  simp only [excGet, Bool.and_eq_true, beq_iff_eq] at hg
  obtain ⟨⟨h1, h2⟩, h3⟩ := hg
  obtain ⟨hh, g, d, t, os⟩ := s
  have L0 := I.type (M := model prog w)
  have L1 := looks_findIn (M := model prog w) X h1
  have L2 := looks_findIn (M := model prog w) X h2
  unfold getAttr? getAttrBy? getAttrBy
  refine wpAny_bind (wpAny_mkText (wpAny_bind (wpAny_attempt (wpAny_holding (wpAny_bind (L0.at (wpAny_bind (L1.at ?_))))))))
  dsimp only
  rw [show (onTheHeap (Value.ref C) && Value.builtin "BaseException.__getattribute__" == Value.builtin "object.__getattribute__") = false from by rw [show (Value.builtin "BaseException.__getattribute__" == Value.builtin "object.__getattribute__") = false from by decide +kernel, Bool.and_false], if_neg (by decide)]
  unfold getAttrByItsOwn
  refine wpAny_bind (L2.at (wpAny_bind (wpAny_attempt (wpAny_holding ?_))))
  unfold callGetattribute
  rw [show (false && onTheHeap (Value.builtin "BaseException.__getattribute__")) = false from rfl, if_neg (by decide)]
  unfold boundAndCalled
  rw [bga_bind]
  refine wpAny_bind (wpAny_pure (wpAny_call (codeAny_mono h fun r s' z => ?_)))
  rcases r with e | (v | _ | _ | _) <;> first | exact wpAny_mono z (fun v s'' hv => wpAny_pure hv) (fun _ _ z => z.elim) | exact z.elim
theorem exc_class {od : Obj} (X : K.In s.heap) (I : InstAt s.heap x ox C (some od)) (hg : excGet K C = true) (hd : hasDictIn K C = true) (ha : findIn K (.ref C) "__class__" = some (some (.builtin "object.__class__")))
    (hn : specialIn K (.builtin "object.__class__") "__get__" = some (some (.builtin "getset_descriptor.__get__"))) (htk : takesIn K (.builtin "object.__class__") = some true) (hm : mroIn K C (.type "object") = some true)
    (h : Q (some (.ref C)) { s with toks := s.toks + 1 }) : wpAny (model prog w) A (getAttr? (.ref x) "__class__") Q E s := by
  have hf : findObj K C (some od) "__class__" = some (.bind (.builtin "getset_descriptor.__get__") (.builtin "object.__class__")) := findObj_data (by obtain ⟨cd, hc, _⟩ := any_some hd; rw [hc]; rfl) ha hn htk
  refine exc_open? X I hg ?_
  simp only [excGet, Bool.and_eq_true, beq_iff_eq] at hg
  obtain ⟨⟨h1, h2⟩, h3⟩ := hg
  obtain ⟨hh, g, dr, t, os⟩ := s
  have L0 := I.type (M := model prog w)
  have L3 := looks_subIn (M := model prog w) X h3
  have L1 := looks_find (M := model prog w) X I hf
  refine codeAny_call_builtin bga_plain PySem.F.entry_bexc_ga (@check_slot (model prog w) _ _ ⟨hh, g, dr, t + 1, os⟩ "BaseException.__getattribute__" "BaseException" "__getattribute__" (.ref x) [.str "__class__" t] [] _ bga_kind bga_split (L0.andThen L3) (PySem.F.args_bexc_ga _ _) ?_)
  unfold Builtin.«object.__getattribute__»
  refine wpAny_bind (wpAny_pure (wpAny_bind (wpAny_pure (wpAny_bind (L0.at (wpAny_bind (L1.at ?_)))))))
  show wpAny _ _ (holding [.builtin "object.__class__"] (call (.builtin "getset_descriptor.__get__") [.builtin "object.__class__", .ref x, .ref C]) >>= ret) _ _ _
  refine wpAny_bind (wpAny_holding (wpAny_call ?_))
  refine class_get X I hm ?_
  refine wpAny_pure ?_
  exact handed_on rfl h
/-- an error for isinstance -/
def kitB (K : Frag) (C : Addr) : Bool := excGet K C && hasDictIn K C && (findIn K (.ref C) "__class__" == some (some (.builtin "object.__class__"))) && (specialIn K (.builtin "object.__class__") "__get__" == some (some (.builtin "getset_descriptor.__get__"))) && (takesIn K (.builtin "object.__class__") == some true) && (mroIn K C (.type "object") == some true)
theorem kitx_exc {od : Obj} (hk : kitB K C = true) : KitX K (.ref x) (.ref C) (fun h => InstAt h x ox C (some od)) := by
  simp only [kitB, Bool.and_eq_true, beq_iff_eq] at hk
  obtain ⟨⟨⟨⟨⟨hg, hdct⟩, ha⟩, hn⟩, htk⟩, hm⟩ := hk
  exact {
    ty := fun _ _ _ I => I.type
    it := fun _ _ X _ => by
      obtain ⟨cdD, hcD, _⟩ := any_some hdct
      unfold clsIn at hcD
      split at hcD
      · rename_i c' d' cd' sl' ho
        intro A' Q' E' s' k q
        unfold isType loadHead
        exact wpAny_bind (wpAny_loadPart (k _ _ (X _ _ ho)) (wpAny_pure q))
      · cases hcD
    ne := fun h tp dd its n sl X htp => by
      obtain ⟨cdD, hcD, _⟩ := any_some hdct
      refine Bool.eq_false_iff.mpr fun q => ?_
      have e : C = tp := Value.ref.inj (beq_iff_eq.mp q)
      subst e
      unfold clsIn at hcD
      split at hcD
      · rename_i c' d' cd' sl' ho
        have z := (X _ _ ho).symm.trans htp
        cases z
      · cases hcD
    ca := fun X I k => exc_class X I hg hdct ha hn htk hm k }
end
end Mine
end
section
open PySem PySem.W PySem.Calls PyProof.Rows
set_option Elab.async false
set_option maxRecDepth 100000
set_option maxHeartbeats 4000000
namespace Mine
section
variable {prog : Program} {w : World} {A : Around} {E : Value → Shared → Prop} {s : Shared} {env : Env} {h₀ : Heap} {target : Expr} {body : List Stmt} {Q : Flow → Shared → Prop}
theorem turns_idx {ax : Addr} {vs : List Value} {nn : Nat} {m₀ : Str → Option Value} {news : List (Addr × Obj)} (J : Nat → (Str → Option Value) → Prop)
    (hh : A.handled = none) (hl : (ax, listOf vs.toArray nn) ∈ news) (F : Fr h₀ env.locals s.heap m₀) (N : News h₀ env.locals s.heap news) (hj : J 0 m₀)
    (turn : ∀ i v m₁ h tk own, vs[i]? = some v → J i m₁ → Fr h₀ env.locals h m₁ → News h₀ env.locals h (news ++ own) →
      wpAny (model prog w) A (assign target env v) (fun _ s₃ => wpAny (model prog w) A (execs body env) (InvPost h₀ env.locals (J (i + 1)) (news ++ own) { s with heap := h, toks := tk } Q) E s₃) E { s with heap := h, toks := tk })
    (done : ∀ m₁ h tk, J vs.length m₁ → Fr h₀ env.locals h m₁ → News h₀ env.locals h news → Q .next { s with heap := h, toks := tk }) :
    wpAny (model prog w) A (pyIter (.ref ax)) (fun it s₂ => TurnsAt prog w A h₀ env target body Q E it s₂) E s := by
  have hol : s.heap.get? ax = some (listOf vs.toArray nn) := (N _ hl).1
  have hls : s.heap.IsList ax vs.toArray := ⟨_, hol, rfl, nn, rfl⟩
  have hne : ax ≠ s.heap.objs.size := Nat.ne_of_lt (Heap.lt_size hol)
  refine wpAny_pyIter_list hls ?_
  have W := KTurns.ofWalks (target := target) (Walks.list (prog := prog) (w := w) hh s.heap.objs.size ax hne vs.toArray) fun i v s Q E st q => letGo_listiter st.1 q
  refine ⟨_, _, _, _, _, _, _, m₀, news, (fun i m nx => nx = news ∧ J i m), rfl, W, ?_, ?_, ?_, ⟨⟨_, Heap.get?_push_size _ rfl, rfl, rfl⟩, hls.at fun o e => Heap.get?_push_of_some _ e⟩, F.push _, (fun p hp => ⟨Heap.get?_push_of_some _ (N p hp).1, (N p hp).2⟩), ⟨rfl, hj⟩, ?_, ?_⟩
  · intro hm
    rcases List.mem_cons.mp hm with e | hm
    · exact absurd F.ns.lt (e ▸ Nat.lt_irrefl _)
    · exact (N _ hl).2.1 ((List.mem_singleton.mp hm).symm)
  · intro b hb
    rw [List.mem_singleton.mp hb]
    exact next_is_new F
  · intro p hp hI
    exact absurd (Heap.lt_size (N p hp).1) ((List.mem_singleton.mp hI) ▸ Nat.lt_irrefl _)
  · rintro i v m₁ news₁ h₁ tk₁ own hin hP ⟨rfl, hJ⟩ hoff hown hget hall _ F₁ N₁
    have hP' : vs[i]? = some v := by simpa using hP
    have N₂ : News h₀ env.locals h₁ (news₁ ++ own) := fun p hp => N₁ p ((List.mem_append.mp hp).elim (fun h => List.mem_append.mpr (.inr h)) fun h => List.mem_append.mpr (.inl h))
    refine wpAny_mono (turn i v m₁ h₁ tk₁ own hP' hJ F₁ N₂) (fun _ s₃ z => wpAny_mono z (fun f s₂ p => ?_) fun _ _ e => e) fun _ _ e => e
    have fin : InvEnd h₀ env.locals (J (i + 1)) (news₁ ++ own) { s with heap := h₁, toks := tk₁ } s₂ → LoopStepU h₀ env.locals [s.heap.objs.size] own (fun m nx => nx = news₁ ∧ J (i + 1) m) { s with heap := h₁, toks := tk₁ } .next s₂ := by
      rintro ⟨h', tk, m', news', e, F', N', hn, hm⟩
      exact ⟨rfl, h', tk, m', news₁, e, F', fun p hp => N' p (hn p ((List.mem_append.mp hp).elim (fun h => List.mem_append.mpr (.inr h)) fun h => List.mem_append.mpr (.inl h))), hoff, rfl, hm⟩
    cases f with
    | ret v => exact .ret p
    | brk => exact .brk p
    | next => exact .next (fin p)
    | cont => exact .cont (fin p)
  · rintro h' tk m' news' F' N' _ ⟨rfl, hJ⟩
    exact done m' h' tk (by simpa using hJ) F' N'
end
end Mine
end
section
open PySem PySem.W PySem.W.X PySem.W.ZRun PyProof.Rows
set_option Elab.async false
set_option maxRecDepth 100000
set_option maxHeartbeats 0
namespace Mine
local macro_rules | `(tactic| k_head) => `(tactic| z_head)
open_top hz for PySem.Challenge.rw_dm0028_06
end Mine
end
section
open PySem
set_option maxRecDepth 100000
namespace Mine
theorem sx0 : Str.ofString " " = ⟨#[32]⟩ := rfl
theorem sx1 : Str.ofString " Raw value: " = ⟨#[32, 82, 97, 119, 32, 118, 97, 108, 117, 101, 58, 32]⟩ := rfl
theorem sx2 : Str.ofString " [line " = ⟨#[32, 91, 108, 105, 110, 101, 32]⟩ := rfl
theorem sx3 : Str.ofString " [line {0:2d}]" = ⟨#[32, 91, 108, 105, 110, 101, 32, 123, 48, 58, 50, 100, 125, 93]⟩ := rfl
theorem sx4 : Str.ofString " already exists" = ⟨#[32, 97, 108, 114, 101, 97, 100, 121, 32, 101, 120, 105, 115, 116, 115]⟩ := rfl
theorem sx5 : Str.ofString " contains an interpolation key " = ⟨#[32, 99, 111, 110, 116, 97, 105, 110, 115, 32, 97, 110, 32, 105, 110, 116, 101, 114, 112, 111, 108, 97, 116, 105, 111, 110, 32, 107, 101, 121, 32]⟩ := rfl
theorem sx6 : Str.ofString " in section " = ⟨#[32, 105, 110, 32, 115, 101, 99, 116, 105, 111, 110, 32]⟩ := rfl
theorem sx7 : Str.ofString " in section 's' already exists" = ⟨#[32, 105, 110, 32, 115, 101, 99, 116, 105, 111, 110, 32, 39, 115, 39, 32, 97, 108, 114, 101, 97, 100, 121, 32, 101, 120, 105, 115, 116, 115]⟩ := rfl
theorem sx8 : Str.ofString " in section: " = ⟨#[32, 105, 110, 32, 115, 101, 99, 116, 105, 111, 110, 58, 32]⟩ := rfl
theorem sx9 : Str.ofString " in section: 's'" = ⟨#[32, 105, 110, 32, 115, 101, 99, 116, 105, 111, 110, 58, 32, 39, 115, 39]⟩ := rfl
theorem sx10 : Str.ofString " which is not a valid option name. Raw value: 'v'" = ⟨#[32, 119, 104, 105, 99, 104, 32, 105, 115, 32, 110, 111, 116, 32, 97, 32, 118, 97, 108, 105, 100, 32, 111, 112, 116, 105, 111, 110, 32, 110, 97, 109, 101, 46, 32, 82, 97, 119, 32, 118, 97, 108, 117, 101, 58, 32, 39, 118, 39]⟩ := rfl
theorem sx11 : Str.ofString "'r' which is not a valid option name." = ⟨#[39, 114, 39, 32, 119, 104, 105, 99, 104, 32, 105, 115, 32, 110, 111, 116, 32, 97, 32, 118, 97, 108, 105, 100, 32, 111, 112, 116, 105, 111, 110, 32, 110, 97, 109, 101, 46]⟩ := rfl
theorem sx12 : Str.ofString ", 't')" = ⟨#[44, 32, 39, 116, 39, 41]⟩ := rfl
theorem sx13 : Str.ofString ".0" = ⟨#[46, 48]⟩ := rfl
theorem sx14 : Str.ofString ": option " = ⟨#[58, 32, 111, 112, 116, 105, 111, 110, 32]⟩ := rfl
theorem sx15 : Str.ofString ": option 'o' in section 's' already exists" = ⟨#[58, 32, 111, 112, 116, 105, 111, 110, 32, 39, 111, 39, 32, 105, 110, 32, 115, 101, 99, 116, 105, 111, 110, 32, 39, 115, 39, 32, 97, 108, 114, 101, 97, 100, 121, 32, 101, 120, 105, 115, 116, 115]⟩ := rfl
theorem sx16 : Str.ofString ": section " = ⟨#[58, 32, 115, 101, 99, 116, 105, 111, 110, 32]⟩ := rfl
theorem sx17 : Str.ofString "Bad value substitution: option 'o' in section 's'" = ⟨#[66, 97, 100, 32, 118, 97, 108, 117, 101, 32, 115, 117, 98, 115, 116, 105, 116, 117, 116, 105, 111, 110, 58, 32, 111, 112, 116, 105, 111, 110, 32, 39, 111, 39, 32, 105, 110, 32, 115, 101, 99, 116, 105, 111, 110, 32, 39, 115, 39]⟩ := rfl
theorem sx18 : Str.ofString "Bad value substitution: option {!r} in section {!r} contains an interpolation key {!r} which is not a valid option name. Raw value: {!r}" = ⟨#[66, 97, 100, 32, 118, 97, 108, 117, 101, 32, 115, 117, 98, 115, 116, 105, 116, 117, 116, 105, 111, 110, 58, 32, 111, 112, 116, 105, 111, 110, 32, 123, 33, 114, 125, 32, 105, 110, 32, 115, 101, 99, 116, 105, 111, 110, 32, 123, 33, 114, 125, 32, 99, 111, 110, 116, 97, 105, 110, 115, 32, 97, 110, 32, 105, 110, 116, 101, 114, 112, 111, 108, 97, 116, 105, 111, 110, 32, 107, 101, 121, 32, 123, 33, 114, 125, 32, 119, 104, 105, 99, 104, 32, 105, 115, 32, 110, 111, 116, 32, 97, 32, 118, 97, 108, 105, 100, 32, 111, 112, 116, 105, 111, 110, 32, 110, 97, 109, 101, 46, 32, 82, 97, 119, 32, 118, 97, 108, 117, 101, 58, 32, 123, 33, 114, 125]⟩ := rfl
theorem sx19 : Str.ofString "DuplicateOptionError" = ⟨#[68, 117, 112, 108, 105, 99, 97, 116, 101, 79, 112, 116, 105, 111, 110, 69, 114, 114, 111, 114]⟩ := rfl
theorem sx20 : Str.ofString "DuplicateOptionError.__init__" = ⟨#[68, 117, 112, 108, 105, 99, 97, 116, 101, 79, 112, 116, 105, 111, 110, 69, 114, 114, 111, 114, 46, 95, 95, 105, 110, 105, 116, 95, 95]⟩ := rfl
theorem sx21 : Str.ofString "DuplicateSectionError" = ⟨#[68, 117, 112, 108, 105, 99, 97, 116, 101, 83, 101, 99, 116, 105, 111, 110, 69, 114, 114, 111, 114]⟩ := rfl
theorem sx22 : Str.ofString "DuplicateSectionError.__init__" = ⟨#[68, 117, 112, 108, 105, 99, 97, 116, 101, 83, 101, 99, 116, 105, 111, 110, 69, 114, 114, 111, 114, 46, 95, 95, 105, 110, 105, 116, 95, 95]⟩ := rfl
theorem sx23 : Str.ofString "Error" = ⟨#[69, 114, 114, 111, 114]⟩ := rfl
theorem sx24 : Str.ofString "Error.__init__" = ⟨#[69, 114, 114, 111, 114, 46, 95, 95, 105, 110, 105, 116, 95, 95]⟩ := rfl
theorem sx25 : Str.ofString "Error.__repr__" = ⟨#[69, 114, 114, 111, 114, 46, 95, 95, 114, 101, 112, 114, 95, 95]⟩ := rfl
theorem sx26 : Str.ofString "Exception" = ⟨#[69, 120, 99, 101, 112, 116, 105, 111, 110]⟩ := rfl
theorem sx27 : Str.ofString "InterpolationDepthError" = ⟨#[73, 110, 116, 101, 114, 112, 111, 108, 97, 116, 105, 111, 110, 68, 101, 112, 116, 104, 69, 114, 114, 111, 114]⟩ := rfl
theorem sx28 : Str.ofString "InterpolationDepthError.__init__" = ⟨#[73, 110, 116, 101, 114, 112, 111, 108, 97, 116, 105, 111, 110, 68, 101, 112, 116, 104, 69, 114, 114, 111, 114, 46, 95, 95, 105, 110, 105, 116, 95, 95]⟩ := rfl
theorem sx29 : Str.ofString "InterpolationError" = ⟨#[73, 110, 116, 101, 114, 112, 111, 108, 97, 116, 105, 111, 110, 69, 114, 114, 111, 114]⟩ := rfl
theorem sx30 : Str.ofString "InterpolationError.__init__" = ⟨#[73, 110, 116, 101, 114, 112, 111, 108, 97, 116, 105, 111, 110, 69, 114, 114, 111, 114, 46, 95, 95, 105, 110, 105, 116, 95, 95]⟩ := rfl
theorem sx31 : Str.ofString "InterpolationMissingOptionError" = ⟨#[73, 110, 116, 101, 114, 112, 111, 108, 97, 116, 105, 111, 110, 77, 105, 115, 115, 105, 110, 103, 79, 112, 116, 105, 111, 110, 69, 114, 114, 111, 114]⟩ := rfl
theorem sx32 : Str.ofString "InterpolationMissingOptionError.__init__" = ⟨#[73, 110, 116, 101, 114, 112, 111, 108, 97, 116, 105, 111, 110, 77, 105, 115, 115, 105, 110, 103, 79, 112, 116, 105, 111, 110, 69, 114, 114, 111, 114, 46, 95, 95, 105, 110, 105, 116, 95, 95]⟩ := rfl
theorem sx33 : Str.ofString "MAX_INTERPOLATION_DEPTH" = ⟨#[77, 65, 88, 95, 73, 78, 84, 69, 82, 80, 79, 76, 65, 84, 73, 79, 78, 95, 68, 69, 80, 84, 72]⟩ := rfl
theorem sx34 : Str.ofString "No option " = ⟨#[78, 111, 32, 111, 112, 116, 105, 111, 110, 32]⟩ := rfl
theorem sx35 : Str.ofString "No option %r in section: %r" = ⟨#[78, 111, 32, 111, 112, 116, 105, 111, 110, 32, 37, 114, 32, 105, 110, 32, 115, 101, 99, 116, 105, 111, 110, 58, 32, 37, 114]⟩ := rfl
theorem sx36 : Str.ofString "No option 'o' in section: " = ⟨#[78, 111, 32, 111, 112, 116, 105, 111, 110, 32, 39, 111, 39, 32, 105, 110, 32, 115, 101, 99, 116, 105, 111, 110, 58, 32]⟩ := rfl
theorem sx37 : Str.ofString "No section: " = ⟨#[78, 111, 32, 115, 101, 99, 116, 105, 111, 110, 58, 32]⟩ := rfl
theorem sx38 : Str.ofString "No section: %r" = ⟨#[78, 111, 32, 115, 101, 99, 116, 105, 111, 110, 58, 32, 37, 114]⟩ := rfl
theorem sx39 : Str.ofString "No section: 's'" = ⟨#[78, 111, 32, 115, 101, 99, 116, 105, 111, 110, 58, 32, 39, 115, 39]⟩ := rfl
theorem sx40 : Str.ofString "No section: (" = ⟨#[78, 111, 32, 115, 101, 99, 116, 105, 111, 110, 58, 32, 40]⟩ := rfl
theorem sx41 : Str.ofString "NoOptionError" = ⟨#[78, 111, 79, 112, 116, 105, 111, 110, 69, 114, 114, 111, 114]⟩ := rfl
theorem sx42 : Str.ofString "NoOptionError.__init__" = ⟨#[78, 111, 79, 112, 116, 105, 111, 110, 69, 114, 114, 111, 114, 46, 95, 95, 105, 110, 105, 116, 95, 95]⟩ := rfl
theorem sx43 : Str.ofString "NoSectionError" = ⟨#[78, 111, 83, 101, 99, 116, 105, 111, 110, 69, 114, 114, 111, 114]⟩ := rfl
theorem sx44 : Str.ofString "NoSectionError.__init__" = ⟨#[78, 111, 83, 101, 99, 116, 105, 111, 110, 69, 114, 114, 111, 114, 46, 95, 95, 105, 110, 105, 116, 95, 95]⟩ := rfl
theorem sx45 : Str.ofString "Option " = ⟨#[79, 112, 116, 105, 111, 110, 32]⟩ := rfl
theorem sx46 : Str.ofString "Recursion limit exceeded in value substitution: option 'o' in section " = ⟨#[82, 101, 99, 117, 114, 115, 105, 111, 110, 32, 108, 105, 109, 105, 116, 32, 101, 120, 99, 101, 101, 100, 101, 100, 32, 105, 110, 32, 118, 97, 108, 117, 101, 32, 115, 117, 98, 115, 116, 105, 116, 117, 116, 105, 111, 110, 58, 32, 111, 112, 116, 105, 111, 110, 32, 39, 111, 39, 32, 105, 110, 32, 115, 101, 99, 116, 105, 111, 110, 32]⟩ := rfl
theorem sx47 : Str.ofString "Recursion limit exceeded in value substitution: option {!r} in section {!r} contains an interpolation key which cannot be substituted in {} steps. Raw value: {!r}" = ⟨#[82, 101, 99, 117, 114, 115, 105, 111, 110, 32, 108, 105, 109, 105, 116, 32, 101, 120, 99, 101, 101, 100, 101, 100, 32, 105, 110, 32, 118, 97, 108, 117, 101, 32, 115, 117, 98, 115, 116, 105, 116, 117, 116, 105, 111, 110, 58, 32, 111, 112, 116, 105, 111, 110, 32, 123, 33, 114, 125, 32, 105, 110, 32, 115, 101, 99, 116, 105, 111, 110, 32, 123, 33, 114, 125, 32, 99, 111, 110, 116, 97, 105, 110, 115, 32, 97, 110, 32, 105, 110, 116, 101, 114, 112, 111, 108, 97, 116, 105, 111, 110, 32, 107, 101, 121, 32, 119, 104, 105, 99, 104, 32, 99, 97, 110, 110, 111, 116, 32, 98, 101, 32, 115, 117, 98, 115, 116, 105, 116, 117, 116, 101, 100, 32, 105, 110, 32, 123, 125, 32, 115, 116, 101, 112, 115, 46, 32, 82, 97, 119, 32, 118, 97, 108, 117, 101, 58, 32, 123, 33, 114, 125]⟩ := rfl
theorem sx48 : Str.ofString "Section " = ⟨#[83, 101, 99, 116, 105, 111, 110, 32]⟩ := rfl
theorem sx49 : Str.ofString "While reading from " = ⟨#[87, 104, 105, 108, 101, 32, 114, 101, 97, 100, 105, 110, 103, 32, 102, 114, 111, 109, 32]⟩ := rfl
theorem sx50 : Str.ofString "While reading from 'f'" = ⟨#[87, 104, 105, 108, 101, 32, 114, 101, 97, 100, 105, 110, 103, 32, 102, 114, 111, 109, 32, 39, 102, 39]⟩ := rfl
theorem sx51 : Str.ofString "]: " = ⟨#[93, 58, 32]⟩ := rfl
theorem sx52 : Str.ofString "__init__" = ⟨#[95, 95, 105, 110, 105, 116, 95, 95]⟩ := rfl
theorem sx53 : Str.ofString "__name__" = ⟨#[95, 95, 110, 97, 109, 101, 95, 95]⟩ := rfl
theorem sx54 : Str.ofString "__repr__" = ⟨#[95, 95, 114, 101, 112, 114, 95, 95]⟩ := rfl
theorem sx55 : Str.ofString "__str__" = ⟨#[95, 95, 115, 116, 114, 95, 95]⟩ := rfl
theorem sx56 : Str.ofString "_law_bearing" = ⟨#[95, 108, 97, 119, 95, 98, 101, 97, 114, 105, 110, 103]⟩ := rfl
theorem sx57 : Str.ofString "_law_duplicate" = ⟨#[95, 108, 97, 119, 95, 100, 117, 112, 108, 105, 99, 97, 116, 101]⟩ := rfl
theorem sx58 : Str.ofString "_law_right" = ⟨#[95, 108, 97, 119, 95, 114, 105, 103, 104, 116]⟩ := rfl
theorem sx59 : Str.ofString "abs" = ⟨#[97, 98, 115]⟩ := rfl
theorem sx60 : Str.ofString "append" = ⟨#[97, 112, 112, 101, 110, 100]⟩ := rfl
theorem sx61 : Str.ofString "args" = ⟨#[97, 114, 103, 115]⟩ := rfl
theorem sx62 : Str.ofString "below" = ⟨#[98, 101, 108, 111, 119]⟩ := rfl
theorem sx63 : Str.ofString "cpy313.configparser" = ⟨#[99, 112, 121, 51, 49, 51, 46, 99, 111, 110, 102, 105, 103, 112, 97, 114, 115, 101, 114]⟩ := rfl
theorem sx64 : Str.ofString "divmod" = ⟨#[100, 105, 118, 109, 111, 100]⟩ := rfl
theorem sx65 : Str.ofString "err" = ⟨#[101, 114, 114]⟩ := rfl
theorem sx66 : Str.ofString "extend" = ⟨#[101, 120, 116, 101, 110, 100]⟩ := rfl
theorem sx67 : Str.ofString "f" = ⟨#[102]⟩ := rfl
theorem sx68 : Str.ofString "fast" = ⟨#[102, 97, 115, 116]⟩ := rfl
theorem sx69 : Str.ofString "field" = ⟨#[102, 105, 101, 108, 100]⟩ := rfl
theorem sx70 : Str.ofString "format" = ⟨#[102, 111, 114, 109, 97, 116]⟩ := rfl
theorem sx71 : Str.ofString "head" = ⟨#[104, 101, 97, 100]⟩ := rfl
theorem sx72 : Str.ofString "insert" = ⟨#[105, 110, 115, 101, 114, 116]⟩ := rfl
theorem sx73 : Str.ofString "isinstance" = ⟨#[105, 115, 105, 110, 115, 116, 97, 110, 99, 101]⟩ := rfl
theorem sx74 : Str.ofString "join" = ⟨#[106, 111, 105, 110]⟩ := rfl
theorem sx75 : Str.ofString "key" = ⟨#[107, 101, 121]⟩ := rfl
theorem sx76 : Str.ofString "kind" = ⟨#[107, 105, 110, 100]⟩ := rfl
theorem sx77 : Str.ofString "last" = ⟨#[108, 97, 115, 116]⟩ := rfl
theorem sx78 : Str.ofString "law" = ⟨#[108, 97, 119]⟩ := rfl
theorem sx79 : Str.ofString "law_dm0028_06" = ⟨#[108, 97, 119, 95, 100, 109, 48, 48, 50, 56, 95, 48, 54]⟩ := rfl
theorem sx80 : Str.ofString "len" = ⟨#[108, 101, 110]⟩ := rfl
theorem sx81 : Str.ofString "line" = ⟨#[108, 105, 110, 101]⟩ := rfl
theorem sx82 : Str.ofString "lineno" = ⟨#[108, 105, 110, 101, 110, 111]⟩ := rfl
theorem sx83 : Str.ofString "made" = ⟨#[109, 97, 100, 101]⟩ := rfl
theorem sx84 : Str.ofString "message" = ⟨#[109, 101, 115, 115, 97, 103, 101]⟩ := rfl
theorem sx85 : Str.ofString "msg" = ⟨#[109, 115, 103]⟩ := rfl
theorem sx86 : Str.ofString "o" = ⟨#[111]⟩ := rfl
theorem sx87 : Str.ofString "option" = ⟨#[111, 112, 116, 105, 111, 110]⟩ := rfl
theorem sx88 : Str.ofString "option " = ⟨#[111, 112, 116, 105, 111, 110, 32]⟩ := rfl
theorem sx89 : Str.ofString "option 'o' in section " = ⟨#[111, 112, 116, 105, 111, 110, 32, 39, 111, 39, 32, 105, 110, 32, 115, 101, 99, 116, 105, 111, 110, 32]⟩ := rfl
theorem sx90 : Str.ofString "place" = ⟨#[112, 108, 97, 99, 101]⟩ := rfl
theorem sx91 : Str.ofString "plain" = ⟨#[112, 108, 97, 105, 110]⟩ := rfl
theorem sx92 : Str.ofString "r" = ⟨#[114]⟩ := rfl
theorem sx93 : Str.ofString "rawval" = ⟨#[114, 97, 119, 118, 97, 108]⟩ := rfl
theorem sx94 : Str.ofString "reference" = ⟨#[114, 101, 102, 101, 114, 101, 110, 99, 101]⟩ := rfl
theorem sx95 : Str.ofString "repr" = ⟨#[114, 101, 112, 114]⟩ := rfl
theorem sx96 : Str.ofString "rest" = ⟨#[114, 101, 115, 116]⟩ := rfl
theorem sx97 : Str.ofString "s" = ⟨#[115]⟩ := rfl
theorem sx98 : Str.ofString "script" = ⟨#[115, 99, 114, 105, 112, 116]⟩ := rfl
theorem sx99 : Str.ofString "section" = ⟨#[115, 101, 99, 116, 105, 111, 110]⟩ := rfl
theorem sx100 : Str.ofString "section " = ⟨#[115, 101, 99, 116, 105, 111, 110, 32]⟩ := rfl
theorem sx101 : Str.ofString "section 's' already exists" = ⟨#[115, 101, 99, 116, 105, 111, 110, 32, 39, 115, 39, 32, 97, 108, 114, 101, 97, 100, 121, 32, 101, 120, 105, 115, 116, 115]⟩ := rfl
theorem sx102 : Str.ofString "self" = ⟨#[115, 101, 108, 102]⟩ := rfl
theorem sx103 : Str.ofString "source" = ⟨#[115, 111, 117, 114, 99, 101]⟩ := rfl
theorem sx104 : Str.ofString "steps" = ⟨#[115, 116, 101, 112, 115]⟩ := rfl
theorem sx105 : Str.ofString "str" = ⟨#[115, 116, 114]⟩ := rfl
theorem sx106 : Str.ofString "t" = ⟨#[116]⟩ := rfl
theorem sx107 : Str.ofString "tail" = ⟨#[116, 97, 105, 108]⟩ := rfl
theorem sx108 : Str.ofString "tower" = ⟨#[116, 111, 119, 101, 114]⟩ := rfl
theorem sx109 : Str.ofString "towers" = ⟨#[116, 111, 119, 101, 114, 115]⟩ := rfl
theorem sx110 : Str.ofString "tuple" = ⟨#[116, 117, 112, 108, 101]⟩ := rfl
theorem sx111 : Str.ofString "v" = ⟨#[118]⟩ := rfl
theorem sx112 : Str.ofString "which cannot be substituted in 10 steps. Raw value: 'v'" = ⟨#[119, 104, 105, 99, 104, 32, 99, 97, 110, 110, 111, 116, 32, 98, 101, 32, 115, 117, 98, 115, 116, 105, 116, 117, 116, 101, 100, 32, 105, 110, 32, 49, 48, 32, 115, 116, 101, 112, 115, 46, 32, 82, 97, 119, 32, 118, 97, 108, 117, 101, 58, 32, 39, 118, 39]⟩ := rfl
theorem sx113 : Str.ofString "words" = ⟨#[119, 111, 114, 100, 115]⟩ := rfl
theorem sx114 : Str.ofString "x" = ⟨#[120]⟩ := rfl
end Mine
end
section
open PySem PySem.W PySem.W.X PySem.Calls PyProof.Rows PySem.W.ZRun
set_option maxRecDepth 100000
set_option maxHeartbeats 8000000
set_option linter.unusedVariables false
set_option linter.unusedSimpArgs false
namespace Mine
local macro_rules | `(tactic| walk_at $s:str) => `(tactic| k_extra $s)
local macro_rules | `(tactic| k_ne) => `(tactic| (refine neN ?_; (try dsimp only); k_extra "ne"))
section
theorem lay1 : True := by
  k_with_none
  k_with "ne" => (with_reducible (first | exact ns1 | exact ns2 | exact qlt (by assumption) | exact qgt (by assumption) | exact qne (by assumption) | exact qen (by assumption) | exact rlt (by assumption) | exact rgt (by assumption) | exact rne (by assumption) | exact ren (by assumption) | exact qlt (And.right (by assumption)) | exact qgt (And.right (by assumption)) | exact qne (And.right (by assumption)) | exact qen (And.right (by assumption)) | exact rlt (And.right (by assumption)) | exact rgt (And.right (by assumption)) | exact rne (And.right (by assumption)) | exact ren (And.right (by assumption)) | exact qlt (And.right (And.right (by assumption))) | exact qgt (And.right (And.right (by assumption))) | exact qne (And.right (And.right (by assumption))) | exact qen (And.right (And.right (by assumption))) | exact rlt (And.right (And.right (by assumption))) | exact rgt (And.right (And.right (by assumption))) | exact rne (And.right (And.right (by assumption))) | exact ren (And.right (And.right (by assumption))) | exact qlt (And.right (And.right (And.right (by assumption)))) | exact qgt (And.right (And.right (And.right (by assumption)))) | exact qne (And.right (And.right (And.right (by assumption)))) | exact qen (And.right (And.right (And.right (by assumption)))) | exact rlt (And.right (And.right (And.right (by assumption)))) | exact rgt (And.right (And.right (And.right (by assumption)))) | exact rne (And.right (And.right (And.right (by assumption)))) | exact ren (And.right (And.right (And.right (by assumption)))) | exact qlt (And.right (And.right (And.right (And.right (by assumption))))) | exact qgt (And.right (And.right (And.right (And.right (by assumption))))) | exact qne (And.right (And.right (And.right (And.right (by assumption))))) | exact qen (And.right (And.right (And.right (And.right (by assumption))))) | exact rlt (And.right (And.right (And.right (And.right (by assumption))))) | exact rgt (And.right (And.right (And.right (And.right (by assumption))))) | exact rne (And.right (And.right (And.right (And.right (by assumption))))) | exact ren (And.right (And.right (And.right (And.right (by assumption))))) | exact qlt (And.right (And.right (And.right (And.right (And.right (by assumption)))))) | exact qgt (And.right (And.right (And.right (And.right (And.right (by assumption)))))) | exact qne (And.right (And.right (And.right (And.right (And.right (by assumption)))))) | exact qen (And.right (And.right (And.right (And.right (And.right (by assumption)))))) | exact rlt (And.right (And.right (And.right (And.right (And.right (by assumption)))))) | exact rgt (And.right (And.right (And.right (And.right (And.right (by assumption)))))) | exact rne (And.right (And.right (And.right (And.right (And.right (by assumption)))))) | exact ren (And.right (And.right (And.right (And.right (And.right (by assumption)))))) | exact qlt (And.right (And.right (And.right (And.right (And.right (And.right (by assumption))))))) | exact qgt (And.right (And.right (And.right (And.right (And.right (And.right (by assumption))))))) | exact qne (And.right (And.right (And.right (And.right (And.right (And.right (by assumption))))))) | exact qen (And.right (And.right (And.right (And.right (And.right (And.right (by assumption))))))) | exact rlt (And.right (And.right (And.right (And.right (And.right (And.right (by assumption))))))) | exact rgt (And.right (And.right (And.right (And.right (And.right (And.right (by assumption))))))) | exact rne (And.right (And.right (And.right (And.right (And.right (And.right (by assumption))))))) | exact ren (And.right (And.right (And.right (And.right (And.right (And.right (by assumption))))))) | exact qlt (And.right (And.right (And.right (And.right (And.right (And.right (And.right (by assumption)))))))) | exact qgt (And.right (And.right (And.right (And.right (And.right (And.right (And.right (by assumption)))))))) | exact qne (And.right (And.right (And.right (And.right (And.right (And.right (And.right (by assumption)))))))) | exact qen (And.right (And.right (And.right (And.right (And.right (And.right (And.right (by assumption)))))))) | exact rlt (And.right (And.right (And.right (And.right (And.right (And.right (And.right (by assumption)))))))) | exact rgt (And.right (And.right (And.right (And.right (And.right (And.right (And.right (by assumption)))))))) | exact rne (And.right (And.right (And.right (And.right (And.right (And.right (And.right (by assumption)))))))) | exact ren (And.right (And.right (And.right (And.right (And.right (And.right (And.right (by assumption)))))))) | exact qlt (And.right (And.right (And.right (And.right (And.right (And.right (And.right (And.right (by assumption))))))))) | exact qgt (And.right (And.right (And.right (And.right (And.right (And.right (And.right (And.right (by assumption))))))))) | exact qne (And.right (And.right (And.right (And.right (And.right (And.right (And.right (And.right (by assumption))))))))) | exact qen (And.right (And.right (And.right (And.right (And.right (And.right (And.right (And.right (by assumption))))))))) | exact rlt (And.right (And.right (And.right (And.right (And.right (And.right (And.right (And.right (by assumption))))))))) | exact rgt (And.right (And.right (And.right (And.right (And.right (And.right (And.right (And.right (by assumption))))))))) | exact rne (And.right (And.right (And.right (And.right (And.right (And.right (And.right (And.right (by assumption))))))))) | exact ren (And.right (And.right (And.right (And.right (And.right (And.right (And.right (And.right (by assumption))))))))) | exact qlt (And.right (And.right (And.right (And.right (And.right (And.right (And.right (And.right (And.right (by assumption)))))))))) | exact qgt (And.right (And.right (And.right (And.right (And.right (And.right (And.right (And.right (And.right (by assumption)))))))))) | exact qne (And.right (And.right (And.right (And.right (And.right (And.right (And.right (And.right (And.right (by assumption)))))))))) | exact qen (And.right (And.right (And.right (And.right (And.right (And.right (And.right (And.right (And.right (by assumption)))))))))) | exact rlt (And.right (And.right (And.right (And.right (And.right (And.right (And.right (And.right (And.right (by assumption)))))))))) | exact rgt (And.right (And.right (And.right (And.right (And.right (And.right (And.right (And.right (And.right (by assumption)))))))))) | exact rne (And.right (And.right (And.right (And.right (And.right (And.right (And.right (And.right (And.right (by assumption)))))))))) | exact ren (And.right (And.right (And.right (And.right (And.right (And.right (And.right (And.right (And.right (by assumption)))))))))) | exact qlt (And.right (And.right (And.right (And.right (And.right (And.right (And.right (And.right (And.right (And.right (by assumption))))))))))) | exact qgt (And.right (And.right (And.right (And.right (And.right (And.right (And.right (And.right (And.right (And.right (by assumption))))))))))) | exact qne (And.right (And.right (And.right (And.right (And.right (And.right (And.right (And.right (And.right (And.right (by assumption))))))))))) | exact qen (And.right (And.right (And.right (And.right (And.right (And.right (And.right (And.right (And.right (And.right (by assumption))))))))))) | exact rlt (And.right (And.right (And.right (And.right (And.right (And.right (And.right (And.right (And.right (And.right (by assumption))))))))))) | exact rgt (And.right (And.right (And.right (And.right (And.right (And.right (And.right (And.right (And.right (And.right (by assumption))))))))))) | exact rne (And.right (And.right (And.right (And.right (And.right (And.right (And.right (And.right (And.right (And.right (by assumption))))))))))) | exact ren (And.right (And.right (And.right (And.right (And.right (And.right (And.right (And.right (And.right (And.right (by assumption))))))))))) | exact qlt (And.right (And.right (And.right (And.right (And.right (And.right (And.right (And.right (And.right (And.right (And.right (by assumption)))))))))))) | exact qgt (And.right (And.right (And.right (And.right (And.right (And.right (And.right (And.right (And.right (And.right (And.right (by assumption)))))))))))) | exact qne (And.right (And.right (And.right (And.right (And.right (And.right (And.right (And.right (And.right (And.right (And.right (by assumption)))))))))))) | exact qen (And.right (And.right (And.right (And.right (And.right (And.right (And.right (And.right (And.right (And.right (And.right (by assumption)))))))))))) | exact rlt (And.right (And.right (And.right (And.right (And.right (And.right (And.right (And.right (And.right (And.right (And.right (by assumption)))))))))))) | exact rgt (And.right (And.right (And.right (And.right (And.right (And.right (And.right (And.right (And.right (And.right (And.right (by assumption)))))))))))) | exact rne (And.right (And.right (And.right (And.right (And.right (And.right (And.right (And.right (And.right (And.right (And.right (by assumption)))))))))))) | exact ren (And.right (And.right (And.right (And.right (And.right (And.right (And.right (And.right (And.right (And.right (And.right (by assumption)))))))))))) | exact qlt (And.right (And.right (And.right (And.right (And.right (And.right (And.right (And.right (And.right (And.right (And.right (And.right (by assumption))))))))))))) | exact qgt (And.right (And.right (And.right (And.right (And.right (And.right (And.right (And.right (And.right (And.right (And.right (And.right (by assumption))))))))))))) | exact qne (And.right (And.right (And.right (And.right (And.right (And.right (And.right (And.right (And.right (And.right (And.right (And.right (by assumption))))))))))))) | exact qen (And.right (And.right (And.right (And.right (And.right (And.right (And.right (And.right (And.right (And.right (And.right (And.right (by assumption))))))))))))) | exact rlt (And.right (And.right (And.right (And.right (And.right (And.right (And.right (And.right (And.right (And.right (And.right (And.right (by assumption))))))))))))) | exact rgt (And.right (And.right (And.right (And.right (And.right (And.right (And.right (And.right (And.right (And.right (And.right (And.right (by assumption))))))))))))) | exact rne (And.right (And.right (And.right (And.right (And.right (And.right (And.right (And.right (And.right (And.right (And.right (And.right (by assumption))))))))))))) | exact ren (And.right (And.right (And.right (And.right (And.right (And.right (And.right (And.right (And.right (And.right (And.right (And.right (by assumption))))))))))))) | exact qlt (And.right (And.right (And.right (And.right (And.right (And.right (And.right (And.right (And.right (And.right (And.right (And.right (And.right (by assumption)))))))))))))) | exact qgt (And.right (And.right (And.right (And.right (And.right (And.right (And.right (And.right (And.right (And.right (And.right (And.right (And.right (by assumption)))))))))))))) | exact qne (And.right (And.right (And.right (And.right (And.right (And.right (And.right (And.right (And.right (And.right (And.right (And.right (And.right (by assumption)))))))))))))) | exact qen (And.right (And.right (And.right (And.right (And.right (And.right (And.right (And.right (And.right (And.right (And.right (And.right (And.right (by assumption)))))))))))))) | exact rlt (And.right (And.right (And.right (And.right (And.right (And.right (And.right (And.right (And.right (And.right (And.right (And.right (And.right (by assumption)))))))))))))) | exact rgt (And.right (And.right (And.right (And.right (And.right (And.right (And.right (And.right (And.right (And.right (And.right (And.right (And.right (by assumption)))))))))))))) | exact rne (And.right (And.right (And.right (And.right (And.right (And.right (And.right (And.right (And.right (And.right (And.right (And.right (And.right (by assumption)))))))))))))) | exact ren (And.right (And.right (And.right (And.right (And.right (And.right (And.right (And.right (And.right (And.right (And.right (And.right (And.right (by assumption)))))))))))))) | exact qlt (And.right (And.right (And.right (And.right (And.right (And.right (And.right (And.right (And.right (And.right (And.right (And.right (And.right (And.right (by assumption))))))))))))))) | exact qgt (And.right (And.right (And.right (And.right (And.right (And.right (And.right (And.right (And.right (And.right (And.right (And.right (And.right (And.right (by assumption))))))))))))))) | exact qne (And.right (And.right (And.right (And.right (And.right (And.right (And.right (And.right (And.right (And.right (And.right (And.right (And.right (And.right (by assumption))))))))))))))) | exact qen (And.right (And.right (And.right (And.right (And.right (And.right (And.right (And.right (And.right (And.right (And.right (And.right (And.right (And.right (by assumption))))))))))))))) | exact rlt (And.right (And.right (And.right (And.right (And.right (And.right (And.right (And.right (And.right (And.right (And.right (And.right (And.right (And.right (by assumption))))))))))))))) | exact rgt (And.right (And.right (And.right (And.right (And.right (And.right (And.right (And.right (And.right (And.right (And.right (And.right (And.right (And.right (by assumption))))))))))))))) | exact rne (And.right (And.right (And.right (And.right (And.right (And.right (And.right (And.right (And.right (And.right (And.right (And.right (And.right (And.right (by assumption))))))))))))))) | exact ren (And.right (And.right (And.right (And.right (And.right (And.right (And.right (And.right (And.right (And.right (And.right (And.right (And.right (And.right (by assumption))))))))))))))) | exact qlt (And.right (And.right (And.right (And.right (And.right (And.right (And.right (And.right (And.right (And.right (And.right (And.right (And.right (And.right (And.right (by assumption)))))))))))))))) | exact qgt (And.right (And.right (And.right (And.right (And.right (And.right (And.right (And.right (And.right (And.right (And.right (And.right (And.right (And.right (And.right (by assumption)))))))))))))))) | exact qne (And.right (And.right (And.right (And.right (And.right (And.right (And.right (And.right (And.right (And.right (And.right (And.right (And.right (And.right (And.right (by assumption)))))))))))))))) | exact qen (And.right (And.right (And.right (And.right (And.right (And.right (And.right (And.right (And.right (And.right (And.right (And.right (And.right (And.right (And.right (by assumption)))))))))))))))) | exact rlt (And.right (And.right (And.right (And.right (And.right (And.right (And.right (And.right (And.right (And.right (And.right (And.right (And.right (And.right (And.right (by assumption)))))))))))))))) | exact rgt (And.right (And.right (And.right (And.right (And.right (And.right (And.right (And.right (And.right (And.right (And.right (And.right (And.right (And.right (And.right (by assumption)))))))))))))))) | exact rne (And.right (And.right (And.right (And.right (And.right (And.right (And.right (And.right (And.right (And.right (And.right (And.right (And.right (And.right (And.right (by assumption)))))))))))))))) | exact ren (And.right (And.right (And.right (And.right (And.right (And.right (And.right (And.right (And.right (And.right (And.right (And.right (And.right (And.right (And.right (by assumption))))))))))))))))))
  trivial
theorem lay2 : True := by
  k_with "mine texts" => ((try dsimp only [← sx0, ← sx1, ← sx2, ← sx3, ← sx4, ← sx5, ← sx6, ← sx7, ← sx8, ← sx9, ← sx10, ← sx11, ← sx12, ← sx13, ← sx14, ← sx15, ← sx16, ← sx17, ← sx18, ← sx19, ← sx20, ← sx21, ← sx22, ← sx23, ← sx24, ← sx25, ← sx26, ← sx27, ← sx28, ← sx29, ← sx30, ← sx31, ← sx32, ← sx33, ← sx34, ← sx35, ← sx36, ← sx37, ← sx38, ← sx39, ← sx40, ← sx41, ← sx42, ← sx43, ← sx44, ← sx45, ← sx46, ← sx47, ← sx48, ← sx49, ← sx50, ← sx51, ← sx52, ← sx53, ← sx54, ← sx55, ← sx56, ← sx57, ← sx58, ← sx59, ← sx60, ← sx61, ← sx62, ← sx63, ← sx64, ← sx65, ← sx66, ← sx67, ← sx68, ← sx69, ← sx70, ← sx71, ← sx72, ← sx73, ← sx74, ← sx75, ← sx76, ← sx77, ← sx78, ← sx79, ← sx80, ← sx81, ← sx82, ← sx83, ← sx84, ← sx85, ← sx86, ← sx87, ← sx88, ← sx89, ← sx90, ← sx91, ← sx92, ← sx93, ← sx94, ← sx95, ← sx96, ← sx97, ← sx98, ← sx99, ← sx100, ← sx101, ← sx102, ← sx103, ← sx104, ← sx105, ← sx106, ← sx107, ← sx108, ← sx109, ← sx110, ← sx111, ← sx112, ← sx113, ← sx114]))
  k_with "mine drop" => (first | (refine' Drop.head ?a; (case a => k_all)) | (refine' Drop.tail ?a ?b; (case a => k_ne); (case b => walk_at "mine drop")))
  k_with "setAttr ref" => ((k_here; k_dflt (first | (refine' exc_set0 ?k1 ?k2 ?k3 ?k4 ?k5 ?k6 ?k7 ?k8 ?k9 ?_; (case k1 => k_asm); (case k2 => k_asm); (case k3 => k_asm); (case k4 => k_mem); (case k5 => k_is); (case k6 => kernel_rfl); (case k7 => k_is); (case k8 => k_is); (case k9 => intro zqd; k_upd); k_whole; intro zqdp zqhp zqFp zqNp zql1; (try k_lt zql1)) | (refine' exc_set_args ?k1 ?k2 ?k3 ?k4 ?k5 ?k6 ?k7 ?k8 ?k9 ?k10 ?_; (case k1 => k_asm); (case k2 => k_asm); (case k3 => k_asm); (case k4 => first | (refine' InstAt.of_exc ?N ?h1 ?h2; (case N => k_asm); (case h1 => k_mem); (case h2 => k_mem)) | (refine' InstAt.of_exc0 ?N ?h1; (case N => k_asm); (case h1 => k_mem))); (case k5 => exact isTup_of (by k_asm) (by k_mem)); (case k6 => k_is); (case k7 => kernel_rfl); (case k8 => k_is); (case k9 => k_is); (case k10 => k_upd); k_whole; intro zqhp zqFp zqNp) | (refine' exc_set ?k1 ?k2 ?k3 ?k4 ?k5 ?k6 ?k7 ?k8 ?k9 ?k10 ?k11 ?k12 ?_; (case k1 => k_asm); (case k2 => k_asm); (case k3 => k_asm); (case k4 => first | (refine' InstAt.of_exc ?N ?h1 ?h2; (case N => k_asm); (case h1 => k_mem); (case h2 => k_mem)) | (refine' InstAt.of_exc0 ?N ?h1; (case N => k_asm); (case h1 => k_mem))); (case k5 => k_is); (case k6 => kernel_rfl); (case k7 => k_is); (case k8 => k_is); (case k9 => k_get); (case k10 => k_put); (case k11 => k_upd); (case k12 => exact Nat.le_of_ble_eq_true rfl); k_whole; intro zqhp zqFp zqNp))))
  k_with "call builtin:Exception.__init__" => ((k_here; k_dflt (refine' exc_init_call ?k1 ?k2 ?k3 ?k4 ?k5 ?k6 ?_; (case k1 => k_asm); (case k2 => k_asm); (case k3 => k_asm); (case k4 => first | (refine' InstAt.of_exc ?N ?h1 ?h2; (case N => k_asm); (case h1 => k_mem); (case h2 => k_mem)) | (refine' InstAt.of_exc0 ?N ?h1; (case N => k_asm); (case h1 => k_mem))); (case k5 => k_is); (case k6 => intro zqt; k_upd); k_whole; intro zqtp zqhp zqFp zqNp zql1; (try k_lt zql1))))
  k_with "call builtin:repr" => ((k_here; k_dflt (refine' repr_use ?k1 ?k2 ?k3 ?k4 ?k5 ?k6 ?k7 ?_; (case k1 => assumption); (case k2 => k_asm); (case k3 => k_asm); (case k4 => exact rfl); (case k5 => exact rfl); (case k6 => exact Nat.le_of_ble_eq_true rfl); (case k7 => exact Nat.le_of_ble_eq_true rfl); k_whole; intro zqhp zqup zqtkp zqFp zqNp)))
  k_with "BackIn" => ((k_dflt (refine' back_ ?k1 ?k2 ?k3 ?_; (case k1 => k_asm); (case k2 => k_asm); (case k3 => walk_at "mine drop"); k_whole; intro zqFp zqNp; (try dsimp only))))
  k_with "call ref" => ((k_here; k_dflt (refine wpAny_call ?_; refine' enter_in ?k1 ?k2 ?k3 ?k4 ?k5 ?k6 ?k7 ?k8 ?kB ?c2 ?c3 ?c4 ?c5 ?_; (case k1 => k_asm); (case k2 => k_asm); (case k3 => k_asm); (case k4 => exact Top.nolimit (by assumption)); (case k5 => k_is); (case k6 => k_is); (case k7 => exact Nat.le_of_ble_eq_true rfl); (case k8 => first | ((with_reducible show BindsTo _ _ ⟨[_], []⟩ _); first | exact BindsTo.of_eq (binds := [(_, _)]) rfl | exact binds_K (binds := [(_, _)]) (by k_in) rfl (by k_is) rfl rfl rfl) | ((with_reducible show BindsTo _ _ ⟨[_, _], []⟩ _); first | exact BindsTo.of_eq (binds := [(_, _), (_, _)]) rfl | exact binds_K (binds := [(_, _), (_, _)]) (by k_in) rfl (by k_is) rfl rfl rfl) | ((with_reducible show BindsTo _ _ ⟨[_, _, _], []⟩ _); first | exact BindsTo.of_eq (binds := [(_, _), (_, _), (_, _)]) rfl | exact binds_K (binds := [(_, _), (_, _), (_, _)]) (by k_in) rfl (by k_is) rfl rfl rfl) | ((with_reducible show BindsTo _ _ ⟨[_, _, _, _], []⟩ _); first | exact BindsTo.of_eq (binds := [(_, _), (_, _), (_, _), (_, _)]) rfl | exact binds_K (binds := [(_, _), (_, _), (_, _), (_, _)]) (by k_in) rfl (by k_is) rfl rfl rfl) | ((with_reducible show BindsTo _ _ ⟨[_, _, _, _, _], []⟩ _); first | exact BindsTo.of_eq (binds := [(_, _), (_, _), (_, _), (_, _), (_, _)]) rfl | exact binds_K (binds := [(_, _), (_, _), (_, _), (_, _), (_, _)]) (by k_in) rfl (by k_is) rfl rfl rfl)); (case c5 => decide); (case kB => exact locs rfl); (case c2 => exact rfl); (case c3 => exact rfl); (case c4 => exact rfl); k_whole; intro zqoLp zqLp zqhp zqtkp zqFp zqNp zql1 zqn1; (try k_lt zql1); (try (replace zqn1 := allNe_of zqn1; simp only [AllNe, and_true] at zqn1)); (try dsimp only); walk_at "mine texts")))
  k_with "call builtin:str.join" => ((k_here; (with_reducible show wpAny _ _ (call (Value.builtin "str.join") [Value.str _ _, Value.ref _]) _ _ _); k_dflt (refine join_listC (by is_list) (by repeat constructor) (by decide) (by (simp only [List.map_cons, List.map_nil, List.sum_cons, List.sum_nil, List.length_cons, List.length_nil]; omega)) ?_); intro zqtp zqkp))
  k_with "getMethod type:Exception" => ((k_here; refine' method_type ?F ?X ?m (by decide +kernel) ?e ?h ?_; (case F => k_asm); (case X => k_asm); (case m => exact meta_Exception); (case e => k_dflt k_is); (case h => k_handed)))
  k_with "compareOp IsNot" => ((k_here; k_dflt (refine isNot_none (by assumption) ?_)))
  k_with "call builtin:str.format" => ((k_here; k_dflt (refine' line_use ?k1 ?k2 ?k3 ?k4 ?k5 ?k6 ?k7 ?_; (case k1 => assumption); (case k2 => k_asm); (case k3 => k_asm); (case k4 => exact rfl); (case k5 => exact rfl); (case k6 => exact Nat.le_of_ble_eq_true rfl); (case k7 => exact Nat.le_of_ble_eq_true rfl); k_whole; intro zqhp zqup zqtkp zqFp zqNp)))
  k_with "call builtin:str.format" => ((k_here; (with_reducible show wpAny _ _ (call (Value.builtin "str.format") [Value.str _ _, _, _, _, _]) _ _ _); k_dflt (refine' fmt_use ?k1 ?k2 ?k3 ?k4 ?k5 ?_; (case k1 => k_asm); (case k2 => k_asm); (case k3 => exact ⟨rfl, rfl, Nat.le_of_ble_eq_true rfl, Nat.le_of_ble_eq_true rfl⟩); (case k4 => exact args_5 _ _ _ _ _); (case k5 => walk_at "mine fmt")); k_whole; intro zqhp zqup zqtkp zqFp zqNp))
  k_with "pyReprObj" => ((k_here; k_dflt (refine' reprObj_use ?k1 ?k2 ?k3 ?k4 ?k5 ?k6 ?k7 ?_; (case k1 => assumption); (case k2 => k_asm); (case k3 => k_asm); (case k4 => exact rfl); (case k5 => exact rfl); (case k6 => exact Nat.le_of_ble_eq_true rfl); (case k7 => exact Nat.le_of_ble_eq_true rfl); k_whole; intro zqhp zqup zqtkp zqFp zqNp)))
  k_with "getAttr ref" => ((k_here; (with_reducible rename Gets _ _ _ _ _ _ => zg); k_dflt (refine' gets_use (by assumption) ?k2 ?_; (case k2 => k_asm))))
  trivial
theorem msg06 : ∀ {p : Program} {loose : List Str} {mean : ExcName → Option Value} {mg mb : Str → Option Value} (w : World) (s : Shared) (e : Addr) (t : Str) (u0 : Tok) (G : Gets PySem.Challenge.rw_dm0028_06.prog w s.heap e (Str.ofString "message") (.str t u0))
    (Q E : Value → Shared → Prop) (KX : (hz.heap_178 w.params).In s.heap) (T : Top p loose mean mg mb s.heap)
    (hQ : ∀ h' tk (u : Tok), Grow s.heap h' → Q (.str t u) { s with heap := h', toks := tk }),
    wpAny (model PySem.Challenge.rw_dm0028_06.prog w) (AN 880 4400) (call (.ref 36) [.ref e]) Q E s := by
  w_top off
  k_fill
  intro p loose mean mg mb w s e t u0 G Q E KX T hQ
  obtain ⟨hh, g, dr, tk, os⟩ := s
  dsimp only at KX T G hQ
  w_strict (
  refine wpAny_call ?_
  k_dflt (refine' enter_new (h₀ := hh) (binds := [("self", .ref e)]) (news := []) ?k1 ?k2 KX T.nolimit ?k9 ?k5 ?k6 ?k7 ?k8 ?kB ?c2 ?c3 ?c4 ?c5 ?_; (case k5 => k_is); (case k6 => k_is); (case k7 => exact Nat.le_of_ble_eq_true rfl); (case k8 => first | exact BindsTo.of_eq rfl | exact binds_K KX rfl (by k_is) rfl rfl rfl); (case c5 => decide); (case kB => exact locs rfl); (case c2 => exact rfl); (case c3 => exact rfl); (case c4 => exact rfl); (case k1 => exact fun _ _ e => e); (case k2 => exact Nat.le_refl _); (case k9 => exact List.forall_mem_nil _))
  intro L' h' tk' F' N' l1
  walk_at "mine texts"
  k_steps
  dsimp only
  exact hQ _ _ _ F'.keep)
end
section
theorem layIni061 : True := by
  k_with_none
  k_with "ne" => (with_reducible (first | exact ns1 | exact ns2 | exact qlt (by assumption) | exact qgt (by assumption) | exact qne (by assumption) | exact qen (by assumption) | exact rlt (by assumption) | exact rgt (by assumption) | exact rne (by assumption) | exact ren (by assumption) | exact qlt (And.right (by assumption)) | exact qgt (And.right (by assumption)) | exact qne (And.right (by assumption)) | exact qen (And.right (by assumption)) | exact rlt (And.right (by assumption)) | exact rgt (And.right (by assumption)) | exact rne (And.right (by assumption)) | exact ren (And.right (by assumption)) | exact qlt (And.right (And.right (by assumption))) | exact qgt (And.right (And.right (by assumption))) | exact qne (And.right (And.right (by assumption))) | exact qen (And.right (And.right (by assumption))) | exact rlt (And.right (And.right (by assumption))) | exact rgt (And.right (And.right (by assumption))) | exact rne (And.right (And.right (by assumption))) | exact ren (And.right (And.right (by assumption))) | exact qlt (And.right (And.right (And.right (by assumption)))) | exact qgt (And.right (And.right (And.right (by assumption)))) | exact qne (And.right (And.right (And.right (by assumption)))) | exact qen (And.right (And.right (And.right (by assumption)))) | exact rlt (And.right (And.right (And.right (by assumption)))) | exact rgt (And.right (And.right (And.right (by assumption)))) | exact rne (And.right (And.right (And.right (by assumption)))) | exact ren (And.right (And.right (And.right (by assumption)))) | exact qlt (And.right (And.right (And.right (And.right (by assumption))))) | exact qgt (And.right (And.right (And.right (And.right (by assumption))))) | exact qne (And.right (And.right (And.right (And.right (by assumption))))) | exact qen (And.right (And.right (And.right (And.right (by assumption))))) | exact rlt (And.right (And.right (And.right (And.right (by assumption))))) | exact rgt (And.right (And.right (And.right (And.right (by assumption))))) | exact rne (And.right (And.right (And.right (And.right (by assumption))))) | exact ren (And.right (And.right (And.right (And.right (by assumption))))) | exact qlt (And.right (And.right (And.right (And.right (And.right (by assumption)))))) | exact qgt (And.right (And.right (And.right (And.right (And.right (by assumption)))))) | exact qne (And.right (And.right (And.right (And.right (And.right (by assumption)))))) | exact qen (And.right (And.right (And.right (And.right (And.right (by assumption)))))) | exact rlt (And.right (And.right (And.right (And.right (And.right (by assumption)))))) | exact rgt (And.right (And.right (And.right (And.right (And.right (by assumption)))))) | exact rne (And.right (And.right (And.right (And.right (And.right (by assumption)))))) | exact ren (And.right (And.right (And.right (And.right (And.right (by assumption)))))) | exact qlt (And.right (And.right (And.right (And.right (And.right (And.right (by assumption))))))) | exact qgt (And.right (And.right (And.right (And.right (And.right (And.right (by assumption))))))) | exact qne (And.right (And.right (And.right (And.right (And.right (And.right (by assumption))))))) | exact qen (And.right (And.right (And.right (And.right (And.right (And.right (by assumption))))))) | exact rlt (And.right (And.right (And.right (And.right (And.right (And.right (by assumption))))))) | exact rgt (And.right (And.right (And.right (And.right (And.right (And.right (by assumption))))))) | exact rne (And.right (And.right (And.right (And.right (And.right (And.right (by assumption))))))) | exact ren (And.right (And.right (And.right (And.right (And.right (And.right (by assumption))))))) | exact qlt (And.right (And.right (And.right (And.right (And.right (And.right (And.right (by assumption)))))))) | exact qgt (And.right (And.right (And.right (And.right (And.right (And.right (And.right (by assumption)))))))) | exact qne (And.right (And.right (And.right (And.right (And.right (And.right (And.right (by assumption)))))))) | exact qen (And.right (And.right (And.right (And.right (And.right (And.right (And.right (by assumption)))))))) | exact rlt (And.right (And.right (And.right (And.right (And.right (And.right (And.right (by assumption)))))))) | exact rgt (And.right (And.right (And.right (And.right (And.right (And.right (And.right (by assumption)))))))) | exact rne (And.right (And.right (And.right (And.right (And.right (And.right (And.right (by assumption)))))))) | exact ren (And.right (And.right (And.right (And.right (And.right (And.right (And.right (by assumption)))))))) | exact qlt (And.right (And.right (And.right (And.right (And.right (And.right (And.right (And.right (by assumption))))))))) | exact qgt (And.right (And.right (And.right (And.right (And.right (And.right (And.right (And.right (by assumption))))))))) | exact qne (And.right (And.right (And.right (And.right (And.right (And.right (And.right (And.right (by assumption))))))))) | exact qen (And.right (And.right (And.right (And.right (And.right (And.right (And.right (And.right (by assumption))))))))) | exact rlt (And.right (And.right (And.right (And.right (And.right (And.right (And.right (And.right (by assumption))))))))) | exact rgt (And.right (And.right (And.right (And.right (And.right (And.right (And.right (And.right (by assumption))))))))) | exact rne (And.right (And.right (And.right (And.right (And.right (And.right (And.right (And.right (by assumption))))))))) | exact ren (And.right (And.right (And.right (And.right (And.right (And.right (And.right (And.right (by assumption))))))))) | exact qlt (And.right (And.right (And.right (And.right (And.right (And.right (And.right (And.right (And.right (by assumption)))))))))) | exact qgt (And.right (And.right (And.right (And.right (And.right (And.right (And.right (And.right (And.right (by assumption)))))))))) | exact qne (And.right (And.right (And.right (And.right (And.right (And.right (And.right (And.right (And.right (by assumption)))))))))) | exact qen (And.right (And.right (And.right (And.right (And.right (And.right (And.right (And.right (And.right (by assumption)))))))))) | exact rlt (And.right (And.right (And.right (And.right (And.right (And.right (And.right (And.right (And.right (by assumption)))))))))) | exact rgt (And.right (And.right (And.right (And.right (And.right (And.right (And.right (And.right (And.right (by assumption)))))))))) | exact rne (And.right (And.right (And.right (And.right (And.right (And.right (And.right (And.right (And.right (by assumption)))))))))) | exact ren (And.right (And.right (And.right (And.right (And.right (And.right (And.right (And.right (And.right (by assumption)))))))))) | exact qlt (And.right (And.right (And.right (And.right (And.right (And.right (And.right (And.right (And.right (And.right (by assumption))))))))))) | exact qgt (And.right (And.right (And.right (And.right (And.right (And.right (And.right (And.right (And.right (And.right (by assumption))))))))))) | exact qne (And.right (And.right (And.right (And.right (And.right (And.right (And.right (And.right (And.right (And.right (by assumption))))))))))) | exact qen (And.right (And.right (And.right (And.right (And.right (And.right (And.right (And.right (And.right (And.right (by assumption))))))))))) | exact rlt (And.right (And.right (And.right (And.right (And.right (And.right (And.right (And.right (And.right (And.right (by assumption))))))))))) | exact rgt (And.right (And.right (And.right (And.right (And.right (And.right (And.right (And.right (And.right (And.right (by assumption))))))))))) | exact rne (And.right (And.right (And.right (And.right (And.right (And.right (And.right (And.right (And.right (And.right (by assumption))))))))))) | exact ren (And.right (And.right (And.right (And.right (And.right (And.right (And.right (And.right (And.right (And.right (by assumption))))))))))) | exact qlt (And.right (And.right (And.right (And.right (And.right (And.right (And.right (And.right (And.right (And.right (And.right (by assumption)))))))))))) | exact qgt (And.right (And.right (And.right (And.right (And.right (And.right (And.right (And.right (And.right (And.right (And.right (by assumption)))))))))))) | exact qne (And.right (And.right (And.right (And.right (And.right (And.right (And.right (And.right (And.right (And.right (And.right (by assumption)))))))))))) | exact qen (And.right (And.right (And.right (And.right (And.right (And.right (And.right (And.right (And.right (And.right (And.right (by assumption)))))))))))) | exact rlt (And.right (And.right (And.right (And.right (And.right (And.right (And.right (And.right (And.right (And.right (And.right (by assumption)))))))))))) | exact rgt (And.right (And.right (And.right (And.right (And.right (And.right (And.right (And.right (And.right (And.right (And.right (by assumption)))))))))))) | exact rne (And.right (And.right (And.right (And.right (And.right (And.right (And.right (And.right (And.right (And.right (And.right (by assumption)))))))))))) | exact ren (And.right (And.right (And.right (And.right (And.right (And.right (And.right (And.right (And.right (And.right (And.right (by assumption)))))))))))) | exact qlt (And.right (And.right (And.right (And.right (And.right (And.right (And.right (And.right (And.right (And.right (And.right (And.right (by assumption))))))))))))) | exact qgt (And.right (And.right (And.right (And.right (And.right (And.right (And.right (And.right (And.right (And.right (And.right (And.right (by assumption))))))))))))) | exact qne (And.right (And.right (And.right (And.right (And.right (And.right (And.right (And.right (And.right (And.right (And.right (And.right (by assumption))))))))))))) | exact qen (And.right (And.right (And.right (And.right (And.right (And.right (And.right (And.right (And.right (And.right (And.right (And.right (by assumption))))))))))))) | exact rlt (And.right (And.right (And.right (And.right (And.right (And.right (And.right (And.right (And.right (And.right (And.right (And.right (by assumption))))))))))))) | exact rgt (And.right (And.right (And.right (And.right (And.right (And.right (And.right (And.right (And.right (And.right (And.right (And.right (by assumption))))))))))))) | exact rne (And.right (And.right (And.right (And.right (And.right (And.right (And.right (And.right (And.right (And.right (And.right (And.right (by assumption))))))))))))) | exact ren (And.right (And.right (And.right (And.right (And.right (And.right (And.right (And.right (And.right (And.right (And.right (And.right (by assumption))))))))))))) | exact qlt (And.right (And.right (And.right (And.right (And.right (And.right (And.right (And.right (And.right (And.right (And.right (And.right (And.right (by assumption)))))))))))))) | exact qgt (And.right (And.right (And.right (And.right (And.right (And.right (And.right (And.right (And.right (And.right (And.right (And.right (And.right (by assumption)))))))))))))) | exact qne (And.right (And.right (And.right (And.right (And.right (And.right (And.right (And.right (And.right (And.right (And.right (And.right (And.right (by assumption)))))))))))))) | exact qen (And.right (And.right (And.right (And.right (And.right (And.right (And.right (And.right (And.right (And.right (And.right (And.right (And.right (by assumption)))))))))))))) | exact rlt (And.right (And.right (And.right (And.right (And.right (And.right (And.right (And.right (And.right (And.right (And.right (And.right (And.right (by assumption)))))))))))))) | exact rgt (And.right (And.right (And.right (And.right (And.right (And.right (And.right (And.right (And.right (And.right (And.right (And.right (And.right (by assumption)))))))))))))) | exact rne (And.right (And.right (And.right (And.right (And.right (And.right (And.right (And.right (And.right (And.right (And.right (And.right (And.right (by assumption)))))))))))))) | exact ren (And.right (And.right (And.right (And.right (And.right (And.right (And.right (And.right (And.right (And.right (And.right (And.right (And.right (by assumption)))))))))))))) | exact qlt (And.right (And.right (And.right (And.right (And.right (And.right (And.right (And.right (And.right (And.right (And.right (And.right (And.right (And.right (by assumption))))))))))))))) | exact qgt (And.right (And.right (And.right (And.right (And.right (And.right (And.right (And.right (And.right (And.right (And.right (And.right (And.right (And.right (by assumption))))))))))))))) | exact qne (And.right (And.right (And.right (And.right (And.right (And.right (And.right (And.right (And.right (And.right (And.right (And.right (And.right (And.right (by assumption))))))))))))))) | exact qen (And.right (And.right (And.right (And.right (And.right (And.right (And.right (And.right (And.right (And.right (And.right (And.right (And.right (And.right (by assumption))))))))))))))) | exact rlt (And.right (And.right (And.right (And.right (And.right (And.right (And.right (And.right (And.right (And.right (And.right (And.right (And.right (And.right (by assumption))))))))))))))) | exact rgt (And.right (And.right (And.right (And.right (And.right (And.right (And.right (And.right (And.right (And.right (And.right (And.right (And.right (And.right (by assumption))))))))))))))) | exact rne (And.right (And.right (And.right (And.right (And.right (And.right (And.right (And.right (And.right (And.right (And.right (And.right (And.right (And.right (by assumption))))))))))))))) | exact ren (And.right (And.right (And.right (And.right (And.right (And.right (And.right (And.right (And.right (And.right (And.right (And.right (And.right (And.right (by assumption))))))))))))))) | exact qlt (And.right (And.right (And.right (And.right (And.right (And.right (And.right (And.right (And.right (And.right (And.right (And.right (And.right (And.right (And.right (by assumption)))))))))))))))) | exact qgt (And.right (And.right (And.right (And.right (And.right (And.right (And.right (And.right (And.right (And.right (And.right (And.right (And.right (And.right (And.right (by assumption)))))))))))))))) | exact qne (And.right (And.right (And.right (And.right (And.right (And.right (And.right (And.right (And.right (And.right (And.right (And.right (And.right (And.right (And.right (by assumption)))))))))))))))) | exact qen (And.right (And.right (And.right (And.right (And.right (And.right (And.right (And.right (And.right (And.right (And.right (And.right (And.right (And.right (And.right (by assumption)))))))))))))))) | exact rlt (And.right (And.right (And.right (And.right (And.right (And.right (And.right (And.right (And.right (And.right (And.right (And.right (And.right (And.right (And.right (by assumption)))))))))))))))) | exact rgt (And.right (And.right (And.right (And.right (And.right (And.right (And.right (And.right (And.right (And.right (And.right (And.right (And.right (And.right (And.right (by assumption)))))))))))))))) | exact rne (And.right (And.right (And.right (And.right (And.right (And.right (And.right (And.right (And.right (And.right (And.right (And.right (And.right (And.right (And.right (by assumption)))))))))))))))) | exact ren (And.right (And.right (And.right (And.right (And.right (And.right (And.right (And.right (And.right (And.right (And.right (And.right (And.right (And.right (And.right (by assumption))))))))))))))))))
  trivial
theorem layIni062 : True := by
  k_with "mine texts" => ((try dsimp only [← sx0, ← sx1, ← sx2, ← sx3, ← sx4, ← sx5, ← sx6, ← sx7, ← sx8, ← sx9, ← sx10, ← sx11, ← sx12, ← sx13, ← sx14, ← sx15, ← sx16, ← sx17, ← sx18, ← sx19, ← sx20, ← sx21, ← sx22, ← sx23, ← sx24, ← sx25, ← sx26, ← sx27, ← sx28, ← sx29, ← sx30, ← sx31, ← sx32, ← sx33, ← sx34, ← sx35, ← sx36, ← sx37, ← sx38, ← sx39, ← sx40, ← sx41, ← sx42, ← sx43, ← sx44, ← sx45, ← sx46, ← sx47, ← sx48, ← sx49, ← sx50, ← sx51, ← sx52, ← sx53, ← sx54, ← sx55, ← sx56, ← sx57, ← sx58, ← sx59, ← sx60, ← sx61, ← sx62, ← sx63, ← sx64, ← sx65, ← sx66, ← sx67, ← sx68, ← sx69, ← sx70, ← sx71, ← sx72, ← sx73, ← sx74, ← sx75, ← sx76, ← sx77, ← sx78, ← sx79, ← sx80, ← sx81, ← sx82, ← sx83, ← sx84, ← sx85, ← sx86, ← sx87, ← sx88, ← sx89, ← sx90, ← sx91, ← sx92, ← sx93, ← sx94, ← sx95, ← sx96, ← sx97, ← sx98, ← sx99, ← sx100, ← sx101, ← sx102, ← sx103, ← sx104, ← sx105, ← sx106, ← sx107, ← sx108, ← sx109, ← sx110, ← sx111, ← sx112, ← sx113, ← sx114]))
  k_with "mine drop" => (first | (refine' Drop.head ?a; (case a => k_all)) | (refine' Drop.tail ?a ?b; (case a => k_ne); (case b => walk_at "mine drop")))
  k_with "setAttr ref" => ((k_here; k_dflt (first | (refine' exc_set0 ?k1 ?k2 ?k3 ?k4 ?k5 ?k6 ?k7 ?k8 ?k9 ?_; (case k1 => k_asm); (case k2 => k_asm); (case k3 => k_asm); (case k4 => k_mem); (case k5 => k_is); (case k6 => kernel_rfl); (case k7 => k_is); (case k8 => k_is); (case k9 => intro zqd; k_upd); k_whole; intro zqdp zqhp zqFp zqNp zql1; (try k_lt zql1)) | (refine' exc_set_args ?k1 ?k2 ?k3 ?k4 ?k5 ?k6 ?k7 ?k8 ?k9 ?k10 ?_; (case k1 => k_asm); (case k2 => k_asm); (case k3 => k_asm); (case k4 => first | (refine' InstAt.of_exc ?N ?h1 ?h2; (case N => k_asm); (case h1 => k_mem); (case h2 => k_mem)) | (refine' InstAt.of_exc0 ?N ?h1; (case N => k_asm); (case h1 => k_mem))); (case k5 => exact isTup_of (by k_asm) (by k_mem)); (case k6 => k_is); (case k7 => kernel_rfl); (case k8 => k_is); (case k9 => k_is); (case k10 => k_upd); k_whole; intro zqhp zqFp zqNp) | (refine' exc_set ?k1 ?k2 ?k3 ?k4 ?k5 ?k6 ?k7 ?k8 ?k9 ?k10 ?k11 ?k12 ?_; (case k1 => k_asm); (case k2 => k_asm); (case k3 => k_asm); (case k4 => first | (refine' InstAt.of_exc ?N ?h1 ?h2; (case N => k_asm); (case h1 => k_mem); (case h2 => k_mem)) | (refine' InstAt.of_exc0 ?N ?h1; (case N => k_asm); (case h1 => k_mem))); (case k5 => k_is); (case k6 => kernel_rfl); (case k7 => k_is); (case k8 => k_is); (case k9 => k_get); (case k10 => k_put); (case k11 => k_upd); (case k12 => exact Nat.le_of_ble_eq_true rfl); k_whole; intro zqhp zqFp zqNp))))
  k_with "call builtin:Exception.__init__" => ((k_here; k_dflt (refine' exc_init_call ?k1 ?k2 ?k3 ?k4 ?k5 ?k6 ?_; (case k1 => k_asm); (case k2 => k_asm); (case k3 => k_asm); (case k4 => first | (refine' InstAt.of_exc ?N ?h1 ?h2; (case N => k_asm); (case h1 => k_mem); (case h2 => k_mem)) | (refine' InstAt.of_exc0 ?N ?h1; (case N => k_asm); (case h1 => k_mem))); (case k5 => k_is); (case k6 => intro zqt; k_upd); k_whole; intro zqtp zqhp zqFp zqNp zql1; (try k_lt zql1))))
  k_with "call builtin:repr" => ((k_here; k_dflt (refine' repr_use ?k1 ?k2 ?k3 ?k4 ?k5 ?k6 ?k7 ?_; (case k1 => assumption); (case k2 => k_asm); (case k3 => k_asm); (case k4 => exact rfl); (case k5 => exact rfl); (case k6 => exact Nat.le_of_ble_eq_true rfl); (case k7 => exact Nat.le_of_ble_eq_true rfl); k_whole; intro zqhp zqup zqtkp zqFp zqNp)))
  k_with "BackIn" => ((k_dflt (refine' back_ ?k1 ?k2 ?k3 ?_; (case k1 => k_asm); (case k2 => k_asm); (case k3 => walk_at "mine drop"); k_whole; intro zqFp zqNp; (try dsimp only))))
  k_with "call ref" => ((k_here; k_dflt (refine wpAny_call ?_; refine' enter_in ?k1 ?k2 ?k3 ?k4 ?k5 ?k6 ?k7 ?k8 ?kB ?c2 ?c3 ?c4 ?c5 ?_; (case k1 => k_asm); (case k2 => k_asm); (case k3 => k_asm); (case k4 => exact Top.nolimit (by assumption)); (case k5 => k_is); (case k6 => k_is); (case k7 => exact Nat.le_of_ble_eq_true rfl); (case k8 => first | ((with_reducible show BindsTo _ _ ⟨[_], []⟩ _); first | exact BindsTo.of_eq (binds := [(_, _)]) rfl | exact binds_K (binds := [(_, _)]) (by k_in) rfl (by k_is) rfl rfl rfl) | ((with_reducible show BindsTo _ _ ⟨[_, _], []⟩ _); first | exact BindsTo.of_eq (binds := [(_, _), (_, _)]) rfl | exact binds_K (binds := [(_, _), (_, _)]) (by k_in) rfl (by k_is) rfl rfl rfl) | ((with_reducible show BindsTo _ _ ⟨[_, _, _], []⟩ _); first | exact BindsTo.of_eq (binds := [(_, _), (_, _), (_, _)]) rfl | exact binds_K (binds := [(_, _), (_, _), (_, _)]) (by k_in) rfl (by k_is) rfl rfl rfl) | ((with_reducible show BindsTo _ _ ⟨[_, _, _, _], []⟩ _); first | exact BindsTo.of_eq (binds := [(_, _), (_, _), (_, _), (_, _)]) rfl | exact binds_K (binds := [(_, _), (_, _), (_, _), (_, _)]) (by k_in) rfl (by k_is) rfl rfl rfl) | ((with_reducible show BindsTo _ _ ⟨[_, _, _, _, _], []⟩ _); first | exact BindsTo.of_eq (binds := [(_, _), (_, _), (_, _), (_, _), (_, _)]) rfl | exact binds_K (binds := [(_, _), (_, _), (_, _), (_, _), (_, _)]) (by k_in) rfl (by k_is) rfl rfl rfl)); (case c5 => decide); (case kB => exact locs rfl); (case c2 => exact rfl); (case c3 => exact rfl); (case c4 => exact rfl); k_whole; intro zqoLp zqLp zqhp zqtkp zqFp zqNp zql1 zqn1; (try k_lt zql1); (try (replace zqn1 := allNe_of zqn1; simp only [AllNe, and_true] at zqn1)); (try dsimp only); walk_at "mine texts")))
  k_with "call builtin:str.join" => ((k_here; (with_reducible show wpAny _ _ (call (Value.builtin "str.join") [Value.str _ _, Value.ref _]) _ _ _); k_dflt (refine join_listC (by is_list) (by repeat constructor) (by decide) (by (simp only [List.map_cons, List.map_nil, List.sum_cons, List.sum_nil, List.length_cons, List.length_nil]; omega)) ?_); intro zqtp zqkp))
  k_with "getMethod type:Exception" => ((k_here; refine' method_type ?F ?X ?m (by decide +kernel) ?e ?h ?_; (case F => k_asm); (case X => k_asm); (case m => exact meta_Exception); (case e => k_dflt k_is); (case h => k_handed)))
  k_with "compareOp IsNot" => ((k_here; k_dflt (refine isNot_none (by assumption) ?_)))
  k_with "call builtin:str.format" => ((k_here; k_dflt (refine' line_use ?k1 ?k2 ?k3 ?k4 ?k5 ?k6 ?k7 ?_; (case k1 => assumption); (case k2 => k_asm); (case k3 => k_asm); (case k4 => exact rfl); (case k5 => exact rfl); (case k6 => exact Nat.le_of_ble_eq_true rfl); (case k7 => exact Nat.le_of_ble_eq_true rfl); k_whole; intro zqhp zqup zqtkp zqFp zqNp)))
  k_with "call builtin:str.format" => ((k_here; (with_reducible show wpAny _ _ (call (Value.builtin "str.format") [Value.str _ _, _, _, _, _]) _ _ _); k_dflt (refine' fmt_use ?k1 ?k2 ?k3 ?k4 ?k5 ?_; (case k1 => k_asm); (case k2 => k_asm); (case k3 => exact ⟨rfl, rfl, Nat.le_of_ble_eq_true rfl, Nat.le_of_ble_eq_true rfl⟩); (case k4 => exact args_5 _ _ _ _ _); (case k5 => walk_at "mine fmt")); k_whole; intro zqhp zqup zqtkp zqFp zqNp))
  k_with "pyReprObj" => ((k_here; k_dflt (refine' reprObj_use ?k1 ?k2 ?k3 ?k4 ?k5 ?k6 ?k7 ?_; (case k1 => assumption); (case k2 => k_asm); (case k3 => k_asm); (case k4 => exact rfl); (case k5 => exact rfl); (case k6 => exact Nat.le_of_ble_eq_true rfl); (case k7 => exact Nat.le_of_ble_eq_true rfl); k_whole; intro zqhp zqup zqtkp zqFp zqNp)))
  trivial
def iniB (K : Frag) (C : Addr) : Bool := (findIn K (.ref C) "__setattr__" == some (some (.builtin "object.__setattr__"))) && excOver K C && (takerIn K C "message" == some none) && hasDictIn K C && (subIn K (.ref C) (.type "Exception") == some true)
def Halt (P : Prop) : Prop := P
theorem layIni063 : True := by
  k_with "setAttr ref" => ((k_here; refine (show Halt _ from ?_)))
  k_with "call builtin:Exception.__init__" => ((k_here; refine (show Halt _ from ?_)))
  k_with "BackIn" => ((refine (show Halt _ from ?_)))
  trivial
theorem errIni : ∀ {p : Program} {loose : List Str} {mean : ExcName → Option Value} {mg mb : Str → Option Value} {w : World} {A : Around} {E : Value → Shared → Prop} {s : Shared} {h₀ : Heap} {L : Addr} {m : Str → Option Value} {news : List (Addr × Obj)} {gg : Obj → List (Addr × Obj)} {x ta C : Addr} {msg : Str} {u : Tok} {Q : Value → Shared → Prop}
    (F : Fr h₀ L s.heap m) (KX : (hz.heap_178 w.params).In h₀) (T : Top p loose mean mg mb h₀) (N : News h₀ L s.heap news) (U : UpdF x (excObj C none ta) news gg) (hC : iniB (hz.heap_178 w.params) C = true) (hA : A.depth < 900)
    (hQ : ∀ d t h' tk uk, Fr h₀ L h' m → News h₀ L h' ((t, tupObj [.str msg u]) :: (d, dictOf [⟨PyData.keyHash w.params "message", .str "message" uk, .str msg u⟩] 1) :: gg (excObj C (some d) t)) → (∀ p ∈ news, p.1 < d) → (∀ p ∈ news, p.1 < t) → d < t → Q .none { s with heap := h', toks := tk }),
    wpAny (model PySem.Challenge.rw_dm0028_06.prog w) A (call (.ref 29) [.ref x, .str msg u]) Q E s := by
  w_top off
  k_fill
  intro p loose mean mg mb w A E s h₀ L m news gg x ta C msg u Q F KX T N U hC hA hQ
  simp only [iniB, Bool.and_eq_true, beq_iff_eq] at hC
  obtain ⟨hh, g, dr, tk, os⟩ := s
  dsimp only at F N hQ
  w_strict (
  refine wpAny_call ?_
  k_dflt (refine' enter_in F KX N T.nolimit ?k5 ?k6 ?k7 ?k8 ?kB ?c2 ?c3 ?c4 ?c5 ?_; (case k5 => k_is); (case k6 => k_is); (case k7 => exact Nat.lt_of_lt_of_le hA (Nat.le_of_ble_eq_true rfl)); (case k8 => first | exact BindsTo.of_eq (binds := [(_, _), (_, _)]) rfl | exact binds_K (binds := [(_, _), (_, _)]) (KX.keeps F.keep) rfl (by k_is) rfl rfl rfl); (case c5 => decide); (case kB => exact locs rfl); (case c2 => exact rfl); (case c3 => exact rfl); (case c4 => exact rfl))
  intro oL L' h' tk' F' N' l1 l2
  clear F N
  walk_at "mine texts"
  k_steps
  unfold Halt
  have hxL : L ≠ x := fun e => l2 _ (updF_mem U).1 e.symm
  refine exc_set0 F' KX N' (.tail _ (updF_mem U).1) hC.1.1.1.1 hC.1.1.1.2 hC.1.1.2 hC.1.2 (fun d => .tail hxL (updF_to U _)) ?_
  intro d h1 F1 N1 l3
  clear F' N'
  k_steps
  unfold Halt
  have l5 : ∀ p ∈ news, p.1 < d := fun p hp => l3 p (.tail _ hp)
  have hxd : x < d := l5 _ (updF_mem U).1
  refine exc_init_call F1 KX N1 (InstAt.of_exc N1 (.tail _ (.tail _ ((updF_mem U).2 _).1)) (.head _)) hC.2 (fun t => .tail (Nat.ne_of_gt hxd) (.tail hxL (updF_on U _ _))) ?_
  intro t h2 F2 N2 l4
  clear F1 N1
  k_steps
  unfold Halt
  have l6 : L < t := l4 _ (.tail _ (.head _))
  have l7 : d < t := l4 _ (.head _)
  have l8 : L < d := l3 _ (.head _)
  intro hb
  have D : ∀ od : Obj, Drop L oL ((t, tupObj [.str msg u]) :: (d, od) :: (L, oL) :: gg (excObj C (some d) t)) ((t, tupObj [.str msg u]) :: (d, od) :: gg (excObj C (some d) t)) := fun od => Drop.tail (p := (t, tupObj [.str msg u])) (Nat.ne_of_gt l6) (Drop.tail (p := (d, od)) (Nat.ne_of_gt l8) (Drop.head (updF_ne (o' := excObj C (some d) t) U l2)))
  have F3 := hb _ (N2 _ (.tail _ (.tail _ (.head _)))).1 F2.keep
  have N3 := fun p hp => (⟨(N2 p ((D _).sub p hp).1).1, ((D _).sub p hp).2, (N2 p ((D _).sub p hp).1).2.2⟩ : _ ∧ _ ∧ _)
  exact hQ d t h2 _ _ F3 N3 l5 (fun p hp => Nat.lt_trans (l5 p hp) l7) l7)
end
section
theorem layKc06a1 : True := by
  k_with_none
  k_with "ne" => (with_reducible (first | exact ns1 | exact ns2 | exact qlt (by assumption) | exact qgt (by assumption) | exact qne (by assumption) | exact qen (by assumption) | exact rlt (by assumption) | exact rgt (by assumption) | exact rne (by assumption) | exact ren (by assumption) | exact qlt (And.right (by assumption)) | exact qgt (And.right (by assumption)) | exact qne (And.right (by assumption)) | exact qen (And.right (by assumption)) | exact rlt (And.right (by assumption)) | exact rgt (And.right (by assumption)) | exact rne (And.right (by assumption)) | exact ren (And.right (by assumption)) | exact qlt (And.right (And.right (by assumption))) | exact qgt (And.right (And.right (by assumption))) | exact qne (And.right (And.right (by assumption))) | exact qen (And.right (And.right (by assumption))) | exact rlt (And.right (And.right (by assumption))) | exact rgt (And.right (And.right (by assumption))) | exact rne (And.right (And.right (by assumption))) | exact ren (And.right (And.right (by assumption))) | exact qlt (And.right (And.right (And.right (by assumption)))) | exact qgt (And.right (And.right (And.right (by assumption)))) | exact qne (And.right (And.right (And.right (by assumption)))) | exact qen (And.right (And.right (And.right (by assumption)))) | exact rlt (And.right (And.right (And.right (by assumption)))) | exact rgt (And.right (And.right (And.right (by assumption)))) | exact rne (And.right (And.right (And.right (by assumption)))) | exact ren (And.right (And.right (And.right (by assumption)))) | exact qlt (And.right (And.right (And.right (And.right (by assumption))))) | exact qgt (And.right (And.right (And.right (And.right (by assumption))))) | exact qne (And.right (And.right (And.right (And.right (by assumption))))) | exact qen (And.right (And.right (And.right (And.right (by assumption))))) | exact rlt (And.right (And.right (And.right (And.right (by assumption))))) | exact rgt (And.right (And.right (And.right (And.right (by assumption))))) | exact rne (And.right (And.right (And.right (And.right (by assumption))))) | exact ren (And.right (And.right (And.right (And.right (by assumption))))) | exact qlt (And.right (And.right (And.right (And.right (And.right (by assumption)))))) | exact qgt (And.right (And.right (And.right (And.right (And.right (by assumption)))))) | exact qne (And.right (And.right (And.right (And.right (And.right (by assumption)))))) | exact qen (And.right (And.right (And.right (And.right (And.right (by assumption)))))) | exact rlt (And.right (And.right (And.right (And.right (And.right (by assumption)))))) | exact rgt (And.right (And.right (And.right (And.right (And.right (by assumption)))))) | exact rne (And.right (And.right (And.right (And.right (And.right (by assumption)))))) | exact ren (And.right (And.right (And.right (And.right (And.right (by assumption)))))) | exact qlt (And.right (And.right (And.right (And.right (And.right (And.right (by assumption))))))) | exact qgt (And.right (And.right (And.right (And.right (And.right (And.right (by assumption))))))) | exact qne (And.right (And.right (And.right (And.right (And.right (And.right (by assumption))))))) | exact qen (And.right (And.right (And.right (And.right (And.right (And.right (by assumption))))))) | exact rlt (And.right (And.right (And.right (And.right (And.right (And.right (by assumption))))))) | exact rgt (And.right (And.right (And.right (And.right (And.right (And.right (by assumption))))))) | exact rne (And.right (And.right (And.right (And.right (And.right (And.right (by assumption))))))) | exact ren (And.right (And.right (And.right (And.right (And.right (And.right (by assumption))))))) | exact qlt (And.right (And.right (And.right (And.right (And.right (And.right (And.right (by assumption)))))))) | exact qgt (And.right (And.right (And.right (And.right (And.right (And.right (And.right (by assumption)))))))) | exact qne (And.right (And.right (And.right (And.right (And.right (And.right (And.right (by assumption)))))))) | exact qen (And.right (And.right (And.right (And.right (And.right (And.right (And.right (by assumption)))))))) | exact rlt (And.right (And.right (And.right (And.right (And.right (And.right (And.right (by assumption)))))))) | exact rgt (And.right (And.right (And.right (And.right (And.right (And.right (And.right (by assumption)))))))) | exact rne (And.right (And.right (And.right (And.right (And.right (And.right (And.right (by assumption)))))))) | exact ren (And.right (And.right (And.right (And.right (And.right (And.right (And.right (by assumption)))))))) | exact qlt (And.right (And.right (And.right (And.right (And.right (And.right (And.right (And.right (by assumption))))))))) | exact qgt (And.right (And.right (And.right (And.right (And.right (And.right (And.right (And.right (by assumption))))))))) | exact qne (And.right (And.right (And.right (And.right (And.right (And.right (And.right (And.right (by assumption))))))))) | exact qen (And.right (And.right (And.right (And.right (And.right (And.right (And.right (And.right (by assumption))))))))) | exact rlt (And.right (And.right (And.right (And.right (And.right (And.right (And.right (And.right (by assumption))))))))) | exact rgt (And.right (And.right (And.right (And.right (And.right (And.right (And.right (And.right (by assumption))))))))) | exact rne (And.right (And.right (And.right (And.right (And.right (And.right (And.right (And.right (by assumption))))))))) | exact ren (And.right (And.right (And.right (And.right (And.right (And.right (And.right (And.right (by assumption))))))))) | exact qlt (And.right (And.right (And.right (And.right (And.right (And.right (And.right (And.right (And.right (by assumption)))))))))) | exact qgt (And.right (And.right (And.right (And.right (And.right (And.right (And.right (And.right (And.right (by assumption)))))))))) | exact qne (And.right (And.right (And.right (And.right (And.right (And.right (And.right (And.right (And.right (by assumption)))))))))) | exact qen (And.right (And.right (And.right (And.right (And.right (And.right (And.right (And.right (And.right (by assumption)))))))))) | exact rlt (And.right (And.right (And.right (And.right (And.right (And.right (And.right (And.right (And.right (by assumption)))))))))) | exact rgt (And.right (And.right (And.right (And.right (And.right (And.right (And.right (And.right (And.right (by assumption)))))))))) | exact rne (And.right (And.right (And.right (And.right (And.right (And.right (And.right (And.right (And.right (by assumption)))))))))) | exact ren (And.right (And.right (And.right (And.right (And.right (And.right (And.right (And.right (And.right (by assumption)))))))))) | exact qlt (And.right (And.right (And.right (And.right (And.right (And.right (And.right (And.right (And.right (And.right (by assumption))))))))))) | exact qgt (And.right (And.right (And.right (And.right (And.right (And.right (And.right (And.right (And.right (And.right (by assumption))))))))))) | exact qne (And.right (And.right (And.right (And.right (And.right (And.right (And.right (And.right (And.right (And.right (by assumption))))))))))) | exact qen (And.right (And.right (And.right (And.right (And.right (And.right (And.right (And.right (And.right (And.right (by assumption))))))))))) | exact rlt (And.right (And.right (And.right (And.right (And.right (And.right (And.right (And.right (And.right (And.right (by assumption))))))))))) | exact rgt (And.right (And.right (And.right (And.right (And.right (And.right (And.right (And.right (And.right (And.right (by assumption))))))))))) | exact rne (And.right (And.right (And.right (And.right (And.right (And.right (And.right (And.right (And.right (And.right (by assumption))))))))))) | exact ren (And.right (And.right (And.right (And.right (And.right (And.right (And.right (And.right (And.right (And.right (by assumption))))))))))) | exact qlt (And.right (And.right (And.right (And.right (And.right (And.right (And.right (And.right (And.right (And.right (And.right (by assumption)))))))))))) | exact qgt (And.right (And.right (And.right (And.right (And.right (And.right (And.right (And.right (And.right (And.right (And.right (by assumption)))))))))))) | exact qne (And.right (And.right (And.right (And.right (And.right (And.right (And.right (And.right (And.right (And.right (And.right (by assumption)))))))))))) | exact qen (And.right (And.right (And.right (And.right (And.right (And.right (And.right (And.right (And.right (And.right (And.right (by assumption)))))))))))) | exact rlt (And.right (And.right (And.right (And.right (And.right (And.right (And.right (And.right (And.right (And.right (And.right (by assumption)))))))))))) | exact rgt (And.right (And.right (And.right (And.right (And.right (And.right (And.right (And.right (And.right (And.right (And.right (by assumption)))))))))))) | exact rne (And.right (And.right (And.right (And.right (And.right (And.right (And.right (And.right (And.right (And.right (And.right (by assumption)))))))))))) | exact ren (And.right (And.right (And.right (And.right (And.right (And.right (And.right (And.right (And.right (And.right (And.right (by assumption)))))))))))) | exact qlt (And.right (And.right (And.right (And.right (And.right (And.right (And.right (And.right (And.right (And.right (And.right (And.right (by assumption))))))))))))) | exact qgt (And.right (And.right (And.right (And.right (And.right (And.right (And.right (And.right (And.right (And.right (And.right (And.right (by assumption))))))))))))) | exact qne (And.right (And.right (And.right (And.right (And.right (And.right (And.right (And.right (And.right (And.right (And.right (And.right (by assumption))))))))))))) | exact qen (And.right (And.right (And.right (And.right (And.right (And.right (And.right (And.right (And.right (And.right (And.right (And.right (by assumption))))))))))))) | exact rlt (And.right (And.right (And.right (And.right (And.right (And.right (And.right (And.right (And.right (And.right (And.right (And.right (by assumption))))))))))))) | exact rgt (And.right (And.right (And.right (And.right (And.right (And.right (And.right (And.right (And.right (And.right (And.right (And.right (by assumption))))))))))))) | exact rne (And.right (And.right (And.right (And.right (And.right (And.right (And.right (And.right (And.right (And.right (And.right (And.right (by assumption))))))))))))) | exact ren (And.right (And.right (And.right (And.right (And.right (And.right (And.right (And.right (And.right (And.right (And.right (And.right (by assumption))))))))))))) | exact qlt (And.right (And.right (And.right (And.right (And.right (And.right (And.right (And.right (And.right (And.right (And.right (And.right (And.right (by assumption)))))))))))))) | exact qgt (And.right (And.right (And.right (And.right (And.right (And.right (And.right (And.right (And.right (And.right (And.right (And.right (And.right (by assumption)))))))))))))) | exact qne (And.right (And.right (And.right (And.right (And.right (And.right (And.right (And.right (And.right (And.right (And.right (And.right (And.right (by assumption)))))))))))))) | exact qen (And.right (And.right (And.right (And.right (And.right (And.right (And.right (And.right (And.right (And.right (And.right (And.right (And.right (by assumption)))))))))))))) | exact rlt (And.right (And.right (And.right (And.right (And.right (And.right (And.right (And.right (And.right (And.right (And.right (And.right (And.right (by assumption)))))))))))))) | exact rgt (And.right (And.right (And.right (And.right (And.right (And.right (And.right (And.right (And.right (And.right (And.right (And.right (And.right (by assumption)))))))))))))) | exact rne (And.right (And.right (And.right (And.right (And.right (And.right (And.right (And.right (And.right (And.right (And.right (And.right (And.right (by assumption)))))))))))))) | exact ren (And.right (And.right (And.right (And.right (And.right (And.right (And.right (And.right (And.right (And.right (And.right (And.right (And.right (by assumption)))))))))))))) | exact qlt (And.right (And.right (And.right (And.right (And.right (And.right (And.right (And.right (And.right (And.right (And.right (And.right (And.right (And.right (by assumption))))))))))))))) | exact qgt (And.right (And.right (And.right (And.right (And.right (And.right (And.right (And.right (And.right (And.right (And.right (And.right (And.right (And.right (by assumption))))))))))))))) | exact qne (And.right (And.right (And.right (And.right (And.right (And.right (And.right (And.right (And.right (And.right (And.right (And.right (And.right (And.right (by assumption))))))))))))))) | exact qen (And.right (And.right (And.right (And.right (And.right (And.right (And.right (And.right (And.right (And.right (And.right (And.right (And.right (And.right (by assumption))))))))))))))) | exact rlt (And.right (And.right (And.right (And.right (And.right (And.right (And.right (And.right (And.right (And.right (And.right (And.right (And.right (And.right (by assumption))))))))))))))) | exact rgt (And.right (And.right (And.right (And.right (And.right (And.right (And.right (And.right (And.right (And.right (And.right (And.right (And.right (And.right (by assumption))))))))))))))) | exact rne (And.right (And.right (And.right (And.right (And.right (And.right (And.right (And.right (And.right (And.right (And.right (And.right (And.right (And.right (by assumption))))))))))))))) | exact ren (And.right (And.right (And.right (And.right (And.right (And.right (And.right (And.right (And.right (And.right (And.right (And.right (And.right (And.right (by assumption))))))))))))))) | exact qlt (And.right (And.right (And.right (And.right (And.right (And.right (And.right (And.right (And.right (And.right (And.right (And.right (And.right (And.right (And.right (by assumption)))))))))))))))) | exact qgt (And.right (And.right (And.right (And.right (And.right (And.right (And.right (And.right (And.right (And.right (And.right (And.right (And.right (And.right (And.right (by assumption)))))))))))))))) | exact qne (And.right (And.right (And.right (And.right (And.right (And.right (And.right (And.right (And.right (And.right (And.right (And.right (And.right (And.right (And.right (by assumption)))))))))))))))) | exact qen (And.right (And.right (And.right (And.right (And.right (And.right (And.right (And.right (And.right (And.right (And.right (And.right (And.right (And.right (And.right (by assumption)))))))))))))))) | exact rlt (And.right (And.right (And.right (And.right (And.right (And.right (And.right (And.right (And.right (And.right (And.right (And.right (And.right (And.right (And.right (by assumption)))))))))))))))) | exact rgt (And.right (And.right (And.right (And.right (And.right (And.right (And.right (And.right (And.right (And.right (And.right (And.right (And.right (And.right (And.right (by assumption)))))))))))))))) | exact rne (And.right (And.right (And.right (And.right (And.right (And.right (And.right (And.right (And.right (And.right (And.right (And.right (And.right (And.right (And.right (by assumption)))))))))))))))) | exact ren (And.right (And.right (And.right (And.right (And.right (And.right (And.right (And.right (And.right (And.right (And.right (And.right (And.right (And.right (And.right (by assumption))))))))))))))))))
  trivial
theorem layKc06a2 : True := by
  k_with "mine texts" => ((try dsimp only [← sx0, ← sx1, ← sx2, ← sx3, ← sx4, ← sx5, ← sx6, ← sx7, ← sx8, ← sx9, ← sx10, ← sx11, ← sx12, ← sx13, ← sx14, ← sx15, ← sx16, ← sx17, ← sx18, ← sx19, ← sx20, ← sx21, ← sx22, ← sx23, ← sx24, ← sx25, ← sx26, ← sx27, ← sx28, ← sx29, ← sx30, ← sx31, ← sx32, ← sx33, ← sx34, ← sx35, ← sx36, ← sx37, ← sx38, ← sx39, ← sx40, ← sx41, ← sx42, ← sx43, ← sx44, ← sx45, ← sx46, ← sx47, ← sx48, ← sx49, ← sx50, ← sx51, ← sx52, ← sx53, ← sx54, ← sx55, ← sx56, ← sx57, ← sx58, ← sx59, ← sx60, ← sx61, ← sx62, ← sx63, ← sx64, ← sx65, ← sx66, ← sx67, ← sx68, ← sx69, ← sx70, ← sx71, ← sx72, ← sx73, ← sx74, ← sx75, ← sx76, ← sx77, ← sx78, ← sx79, ← sx80, ← sx81, ← sx82, ← sx83, ← sx84, ← sx85, ← sx86, ← sx87, ← sx88, ← sx89, ← sx90, ← sx91, ← sx92, ← sx93, ← sx94, ← sx95, ← sx96, ← sx97, ← sx98, ← sx99, ← sx100, ← sx101, ← sx102, ← sx103, ← sx104, ← sx105, ← sx106, ← sx107, ← sx108, ← sx109, ← sx110, ← sx111, ← sx112, ← sx113, ← sx114]))
  k_with "mine drop" => (first | (refine' Drop.head ?a; (case a => k_all)) | (refine' Drop.tail ?a ?b; (case a => k_ne); (case b => walk_at "mine drop")))
  k_with "setAttr ref" => ((k_here; k_dflt (first | (refine' exc_set0 ?k1 ?k2 ?k3 ?k4 ?k5 ?k6 ?k7 ?k8 ?k9 ?_; (case k1 => k_asm); (case k2 => k_asm); (case k3 => k_asm); (case k4 => k_mem); (case k5 => k_is); (case k6 => kernel_rfl); (case k7 => k_is); (case k8 => k_is); (case k9 => intro zqd; k_upd); k_whole; intro zqdp zqhp zqFp zqNp zql1; (try k_lt zql1)) | (refine' exc_set_args ?k1 ?k2 ?k3 ?k4 ?k5 ?k6 ?k7 ?k8 ?k9 ?k10 ?_; (case k1 => k_asm); (case k2 => k_asm); (case k3 => k_asm); (case k4 => first | (refine' InstAt.of_exc ?N ?h1 ?h2; (case N => k_asm); (case h1 => k_mem); (case h2 => k_mem)) | (refine' InstAt.of_exc0 ?N ?h1; (case N => k_asm); (case h1 => k_mem))); (case k5 => exact isTup_of (by k_asm) (by k_mem)); (case k6 => k_is); (case k7 => kernel_rfl); (case k8 => k_is); (case k9 => k_is); (case k10 => k_upd); k_whole; intro zqhp zqFp zqNp) | (refine' exc_set ?k1 ?k2 ?k3 ?k4 ?k5 ?k6 ?k7 ?k8 ?k9 ?k10 ?k11 ?k12 ?_; (case k1 => k_asm); (case k2 => k_asm); (case k3 => k_asm); (case k4 => first | (refine' InstAt.of_exc ?N ?h1 ?h2; (case N => k_asm); (case h1 => k_mem); (case h2 => k_mem)) | (refine' InstAt.of_exc0 ?N ?h1; (case N => k_asm); (case h1 => k_mem))); (case k5 => k_is); (case k6 => kernel_rfl); (case k7 => k_is); (case k8 => k_is); (case k9 => k_get); (case k10 => k_put); (case k11 => k_upd); (case k12 => exact Nat.le_of_ble_eq_true rfl); k_whole; intro zqhp zqFp zqNp))))
  k_with "call builtin:Exception.__init__" => ((k_here; k_dflt (refine' exc_init_call ?k1 ?k2 ?k3 ?k4 ?k5 ?k6 ?_; (case k1 => k_asm); (case k2 => k_asm); (case k3 => k_asm); (case k4 => first | (refine' InstAt.of_exc ?N ?h1 ?h2; (case N => k_asm); (case h1 => k_mem); (case h2 => k_mem)) | (refine' InstAt.of_exc0 ?N ?h1; (case N => k_asm); (case h1 => k_mem))); (case k5 => k_is); (case k6 => intro zqt; k_upd); k_whole; intro zqtp zqhp zqFp zqNp zql1; (try k_lt zql1))))
  k_with "call builtin:repr" => ((k_here; k_dflt (refine' repr_use ?k1 ?k2 ?k3 ?k4 ?k5 ?k6 ?k7 ?_; (case k1 => assumption); (case k2 => k_asm); (case k3 => k_asm); (case k4 => exact rfl); (case k5 => exact rfl); (case k6 => exact Nat.le_of_ble_eq_true rfl); (case k7 => exact Nat.le_of_ble_eq_true rfl); k_whole; intro zqhp zqup zqtkp zqFp zqNp)))
  k_with "BackIn" => ((k_dflt (refine' back_ ?k1 ?k2 ?k3 ?_; (case k1 => k_asm); (case k2 => k_asm); (case k3 => walk_at "mine drop"); k_whole; intro zqFp zqNp; (try dsimp only))))
  k_with "call ref" => ((k_here; k_dflt (refine wpAny_call ?_; refine' enter_in ?k1 ?k2 ?k3 ?k4 ?k5 ?k6 ?k7 ?k8 ?kB ?c2 ?c3 ?c4 ?c5 ?_; (case k1 => k_asm); (case k2 => k_asm); (case k3 => k_asm); (case k4 => exact Top.nolimit (by assumption)); (case k5 => k_is); (case k6 => k_is); (case k7 => exact Nat.le_of_ble_eq_true rfl); (case k8 => first | ((with_reducible show BindsTo _ _ ⟨[_], []⟩ _); first | exact BindsTo.of_eq (binds := [(_, _)]) rfl | exact binds_K (binds := [(_, _)]) (by k_in) rfl (by k_is) rfl rfl rfl) | ((with_reducible show BindsTo _ _ ⟨[_, _], []⟩ _); first | exact BindsTo.of_eq (binds := [(_, _), (_, _)]) rfl | exact binds_K (binds := [(_, _), (_, _)]) (by k_in) rfl (by k_is) rfl rfl rfl) | ((with_reducible show BindsTo _ _ ⟨[_, _, _], []⟩ _); first | exact BindsTo.of_eq (binds := [(_, _), (_, _), (_, _)]) rfl | exact binds_K (binds := [(_, _), (_, _), (_, _)]) (by k_in) rfl (by k_is) rfl rfl rfl) | ((with_reducible show BindsTo _ _ ⟨[_, _, _, _], []⟩ _); first | exact BindsTo.of_eq (binds := [(_, _), (_, _), (_, _), (_, _)]) rfl | exact binds_K (binds := [(_, _), (_, _), (_, _), (_, _)]) (by k_in) rfl (by k_is) rfl rfl rfl) | ((with_reducible show BindsTo _ _ ⟨[_, _, _, _, _], []⟩ _); first | exact BindsTo.of_eq (binds := [(_, _), (_, _), (_, _), (_, _), (_, _)]) rfl | exact binds_K (binds := [(_, _), (_, _), (_, _), (_, _), (_, _)]) (by k_in) rfl (by k_is) rfl rfl rfl)); (case c5 => decide); (case kB => exact locs rfl); (case c2 => exact rfl); (case c3 => exact rfl); (case c4 => exact rfl); k_whole; intro zqoLp zqLp zqhp zqtkp zqFp zqNp zql1 zqn1; (try k_lt zql1); (try (replace zqn1 := allNe_of zqn1; simp only [AllNe, and_true] at zqn1)); (try dsimp only); walk_at "mine texts")))
  k_with "call builtin:str.join" => ((k_here; (with_reducible show wpAny _ _ (call (Value.builtin "str.join") [Value.str _ _, Value.ref _]) _ _ _); k_dflt (refine join_listC (by is_list) (by repeat constructor) (by decide) (by (simp only [List.map_cons, List.map_nil, List.sum_cons, List.sum_nil, List.length_cons, List.length_nil]; omega)) ?_); intro zqtp zqkp))
  k_with "getMethod type:Exception" => ((k_here; refine' method_type ?F ?X ?m (by decide +kernel) ?e ?h ?_; (case F => k_asm); (case X => k_asm); (case m => exact meta_Exception); (case e => k_dflt k_is); (case h => k_handed)))
  k_with "compareOp IsNot" => ((k_here; k_dflt (refine isNot_none (by assumption) ?_)))
  k_with "call builtin:str.format" => ((k_here; k_dflt (refine' line_use ?k1 ?k2 ?k3 ?k4 ?k5 ?k6 ?k7 ?_; (case k1 => assumption); (case k2 => k_asm); (case k3 => k_asm); (case k4 => exact rfl); (case k5 => exact rfl); (case k6 => exact Nat.le_of_ble_eq_true rfl); (case k7 => exact Nat.le_of_ble_eq_true rfl); k_whole; intro zqhp zqup zqtkp zqFp zqNp)))
  k_with "call builtin:str.format" => ((k_here; (with_reducible show wpAny _ _ (call (Value.builtin "str.format") [Value.str _ _, _, _, _, _]) _ _ _); k_dflt (refine' fmt_use ?k1 ?k2 ?k3 ?k4 ?k5 ?_; (case k1 => k_asm); (case k2 => k_asm); (case k3 => exact ⟨rfl, rfl, Nat.le_of_ble_eq_true rfl, Nat.le_of_ble_eq_true rfl⟩); (case k4 => exact args_5 _ _ _ _ _); (case k5 => walk_at "mine fmt")); k_whole; intro zqhp zqup zqtkp zqFp zqNp))
  k_with "pyReprObj" => ((k_here; k_dflt (refine' reprObj_use ?k1 ?k2 ?k3 ?k4 ?k5 ?k6 ?k7 ?_; (case k1 => assumption); (case k2 => k_asm); (case k3 => k_asm); (case k4 => exact rfl); (case k5 => exact rfl); (case k6 => exact Nat.le_of_ble_eq_true rfl); (case k7 => exact Nat.le_of_ble_eq_true rfl); k_whole; intro zqhp zqup zqtkp zqFp zqNp)))
  k_with "call ref" => ((k_here; (with_reducible show wpAny _ _ (call (Value.ref 29) [Value.ref _, Value.str _ _]) _ _ _); k_dflt (refine' errIni ?k1 ?k2 ?k3 ?k4 ?k5 ?k6 ?k7 ?_; (case k1 => k_asm); (case k2 => k_asm); (case k3 => assumption); (case k4 => k_asm); (case k5 => k_updF); (case k6 => kernel_rfl); (case k7 => exact Nat.le_of_ble_eq_true rfl)); k_whole; intro zqdp zqtp zqhp zqtkp zqukp zqFp zqNp zql1 zql2 zql3; (try dsimp only at zqNp); (try k_lt zql1); (try k_lt zql2)))
  trivial
theorem conNS : ∀ {p : Program} {loose : List Str} {mean : ExcName → Option Value} {mg mb : Str → Option Value} (w : World) (s : Shared) (sec : Value) (rs : Str) (R0 : Rep PySem.Challenge.rw_dm0028_06.prog w s.heap sec rs)
    (Q E : Value → Shared → Prop) (KX : (hz.heap_178 w.params).In s.heap) (T : Top p loose mean mg mb s.heap)
    (hQ : ∀ h' tk e d ta od u, Grow s.heap h' → ErrNew s.heap h' 59 e d ta od (Str.ofString "No section: " ++ rs) u [("section", sec)] [sec] → Q (.ref e) { s with heap := h', toks := tk }),
    wpAny (model PySem.Challenge.rw_dm0028_06.prog w) (AD 600 2000) (call (.ref 59) [sec]) Q E s := by
  w_top off
  k_fill
  intro p loose mean mg mb w s sec rs R0 Q E KX T hQ
  obtain ⟨hh, g, dr, tk, os⟩ := s
  dsimp only at KX T R0 hQ
  have lq0 : (Str.ofString "No section: ").length ≤ 200 := Nat.le_of_ble_eq_true rfl
  have O0 := R0.old
  have sq0 := R0.short
  w_strict (
  refine wpAny_call ?_
  refine exc_make (KX 59 _ (by k_is)) (by decide +kernel) (by decide +kernel) (by decide +kernel) (looks_specialIn KX (by k_is)) (looks_instIn KX (by k_is)) (looks_findIn KX (by k_is)) (fun self => bind_fn KX self (by k_is)) (by size_fits) ?_
  k_dflt (refine' enter_new (h₀ := hh) (binds := [("self", .ref (hh.objs.size + 1)), ("section", sec)]) (news := [(hh.objs.size + 1, excObj 59 none hh.objs.size), (hh.objs.size, tupObj [sec])]) ?k1 ?k2 KX T.nolimit ?k9 ?k5 ?k6 ?k7 ?k8 ?kB ?c2 ?c3 ?c4 ?c5 ?_; (case k5 => k_is); (case k6 => k_is); (case k7 => exact Nat.le_of_ble_eq_true rfl); (case k8 => first | exact BindsTo.of_eq rfl | exact binds_K (Frag.In.keeps KX (made_grow _ _ _)) rfl (by k_is) rfl rfl rfl); (case c5 => decide); (case kB => exact locs rfl); (case c2 => exact rfl); (case c3 => exact rfl); (case c4 => exact rfl); (case k1 => exact made_grow _ _ _); (case k2 => (simp; omega)); (case k9 => exact made_news _ _ _))
  intro L' h' tk' F' N' l1; k_lt l1
  walk_at "mine texts"
  k_steps
  refine ⟨rfl, ?_⟩
  (with_reducible rename Fr _ _ _ _ => Fz)
  (with_reducible rename News _ _ _ _ => Nz)
  refine hQ _ _ _ _ _ _ _ Fz.keep (err_close Nz (by k_mem) (by k_mem) (by k_mem) (Eq.trans (lookIn_dict _ _ _) (by k_get)) ?_)
  intro q hq
  simp only [List.mem_cons, List.not_mem_nil, or_false] at hq
  rcases hq with rfl <;> kernel_rfl)
theorem conNO : ∀ {p : Program} {loose : List Str} {mean : ExcName → Option Value} {mg mb : Str → Option Value} (w : World) (s : Shared) (opt sec : Value) (ro : Str) (R0 : Rep PySem.Challenge.rw_dm0028_06.prog w s.heap opt ro) (rs : Str) (R1 : Rep PySem.Challenge.rw_dm0028_06.prog w s.heap sec rs)
    (Q E : Value → Shared → Prop) (KX : (hz.heap_178 w.params).In s.heap) (T : Top p loose mean mg mb s.heap)
    (hQ : ∀ h' tk e d ta od u, Grow s.heap h' → ErrNew s.heap h' 118 e d ta od (Str.ofString "No option " ++ ro ++ Str.ofString " in section: " ++ rs) u [("option", opt), ("section", sec)] [opt, sec] → Q (.ref e) { s with heap := h', toks := tk }),
    wpAny (model PySem.Challenge.rw_dm0028_06.prog w) (AD 600 2000) (call (.ref 118) [opt, sec]) Q E s := by
  w_top off
  k_fill
  intro p loose mean mg mb w s opt sec ro R0 rs R1 Q E KX T hQ
  obtain ⟨hh, g, dr, tk, os⟩ := s
  dsimp only at KX T R0 R1 hQ
  have lq0 : (Str.ofString "No option ").length ≤ 200 := Nat.le_of_ble_eq_true rfl
  have lq1 : (Str.ofString " in section: ").length ≤ 200 := Nat.le_of_ble_eq_true rfl
  have O0 := R0.old
  have sq0 := R0.short
  have O1 := R1.old
  have sq1 := R1.short
  w_strict (
  refine wpAny_call ?_
  refine exc_make (KX 118 _ (by k_is)) (by decide +kernel) (by decide +kernel) (by decide +kernel) (looks_specialIn KX (by k_is)) (looks_instIn KX (by k_is)) (looks_findIn KX (by k_is)) (fun self => bind_fn KX self (by k_is)) (by size_fits) ?_
  k_dflt (refine' enter_new (h₀ := hh) (binds := [("self", .ref (hh.objs.size + 1)), ("option", opt), ("section", sec)]) (news := [(hh.objs.size + 1, excObj 118 none hh.objs.size), (hh.objs.size, tupObj [opt, sec])]) ?k1 ?k2 KX T.nolimit ?k9 ?k5 ?k6 ?k7 ?k8 ?kB ?c2 ?c3 ?c4 ?c5 ?_; (case k5 => k_is); (case k6 => k_is); (case k7 => exact Nat.le_of_ble_eq_true rfl); (case k8 => first | exact BindsTo.of_eq rfl | exact binds_K (Frag.In.keeps KX (made_grow _ _ _)) rfl (by k_is) rfl rfl rfl); (case c5 => decide); (case kB => exact locs rfl); (case c2 => exact rfl); (case c3 => exact rfl); (case c4 => exact rfl); (case k1 => exact made_grow _ _ _); (case k2 => (simp; omega)); (case k9 => exact made_news _ _ _))
  intro L' h' tk' F' N' l1; k_lt l1
  walk_at "mine texts"
  k_steps
  refine ⟨rfl, ?_⟩
  (with_reducible rename Fr _ _ _ _ => Fz)
  (with_reducible rename News _ _ _ _ => Nz)
  refine hQ _ _ _ _ _ _ _ Fz.keep (err_close Nz (by k_mem) (by k_mem) (by k_mem) (Eq.trans (lookIn_dict _ _ _) (by k_get)) ?_)
  intro q hq
  simp only [List.mem_cons, List.not_mem_nil, or_false] at hq
  rcases hq with rfl | rfl <;> kernel_rfl)
end
section
theorem layKc06b1 : True := by
  k_with_none
  k_with "ne" => (with_reducible (first | exact ns1 | exact ns2 | exact qlt (by assumption) | exact qgt (by assumption) | exact qne (by assumption) | exact qen (by assumption) | exact rlt (by assumption) | exact rgt (by assumption) | exact rne (by assumption) | exact ren (by assumption) | exact qlt (And.right (by assumption)) | exact qgt (And.right (by assumption)) | exact qne (And.right (by assumption)) | exact qen (And.right (by assumption)) | exact rlt (And.right (by assumption)) | exact rgt (And.right (by assumption)) | exact rne (And.right (by assumption)) | exact ren (And.right (by assumption)) | exact qlt (And.right (And.right (by assumption))) | exact qgt (And.right (And.right (by assumption))) | exact qne (And.right (And.right (by assumption))) | exact qen (And.right (And.right (by assumption))) | exact rlt (And.right (And.right (by assumption))) | exact rgt (And.right (And.right (by assumption))) | exact rne (And.right (And.right (by assumption))) | exact ren (And.right (And.right (by assumption))) | exact qlt (And.right (And.right (And.right (by assumption)))) | exact qgt (And.right (And.right (And.right (by assumption)))) | exact qne (And.right (And.right (And.right (by assumption)))) | exact qen (And.right (And.right (And.right (by assumption)))) | exact rlt (And.right (And.right (And.right (by assumption)))) | exact rgt (And.right (And.right (And.right (by assumption)))) | exact rne (And.right (And.right (And.right (by assumption)))) | exact ren (And.right (And.right (And.right (by assumption)))) | exact qlt (And.right (And.right (And.right (And.right (by assumption))))) | exact qgt (And.right (And.right (And.right (And.right (by assumption))))) | exact qne (And.right (And.right (And.right (And.right (by assumption))))) | exact qen (And.right (And.right (And.right (And.right (by assumption))))) | exact rlt (And.right (And.right (And.right (And.right (by assumption))))) | exact rgt (And.right (And.right (And.right (And.right (by assumption))))) | exact rne (And.right (And.right (And.right (And.right (by assumption))))) | exact ren (And.right (And.right (And.right (And.right (by assumption))))) | exact qlt (And.right (And.right (And.right (And.right (And.right (by assumption)))))) | exact qgt (And.right (And.right (And.right (And.right (And.right (by assumption)))))) | exact qne (And.right (And.right (And.right (And.right (And.right (by assumption)))))) | exact qen (And.right (And.right (And.right (And.right (And.right (by assumption)))))) | exact rlt (And.right (And.right (And.right (And.right (And.right (by assumption)))))) | exact rgt (And.right (And.right (And.right (And.right (And.right (by assumption)))))) | exact rne (And.right (And.right (And.right (And.right (And.right (by assumption)))))) | exact ren (And.right (And.right (And.right (And.right (And.right (by assumption)))))) | exact qlt (And.right (And.right (And.right (And.right (And.right (And.right (by assumption))))))) | exact qgt (And.right (And.right (And.right (And.right (And.right (And.right (by assumption))))))) | exact qne (And.right (And.right (And.right (And.right (And.right (And.right (by assumption))))))) | exact qen (And.right (And.right (And.right (And.right (And.right (And.right (by assumption))))))) | exact rlt (And.right (And.right (And.right (And.right (And.right (And.right (by assumption))))))) | exact rgt (And.right (And.right (And.right (And.right (And.right (And.right (by assumption))))))) | exact rne (And.right (And.right (And.right (And.right (And.right (And.right (by assumption))))))) | exact ren (And.right (And.right (And.right (And.right (And.right (And.right (by assumption))))))) | exact qlt (And.right (And.right (And.right (And.right (And.right (And.right (And.right (by assumption)))))))) | exact qgt (And.right (And.right (And.right (And.right (And.right (And.right (And.right (by assumption)))))))) | exact qne (And.right (And.right (And.right (And.right (And.right (And.right (And.right (by assumption)))))))) | exact qen (And.right (And.right (And.right (And.right (And.right (And.right (And.right (by assumption)))))))) | exact rlt (And.right (And.right (And.right (And.right (And.right (And.right (And.right (by assumption)))))))) | exact rgt (And.right (And.right (And.right (And.right (And.right (And.right (And.right (by assumption)))))))) | exact rne (And.right (And.right (And.right (And.right (And.right (And.right (And.right (by assumption)))))))) | exact ren (And.right (And.right (And.right (And.right (And.right (And.right (And.right (by assumption)))))))) | exact qlt (And.right (And.right (And.right (And.right (And.right (And.right (And.right (And.right (by assumption))))))))) | exact qgt (And.right (And.right (And.right (And.right (And.right (And.right (And.right (And.right (by assumption))))))))) | exact qne (And.right (And.right (And.right (And.right (And.right (And.right (And.right (And.right (by assumption))))))))) | exact qen (And.right (And.right (And.right (And.right (And.right (And.right (And.right (And.right (by assumption))))))))) | exact rlt (And.right (And.right (And.right (And.right (And.right (And.right (And.right (And.right (by assumption))))))))) | exact rgt (And.right (And.right (And.right (And.right (And.right (And.right (And.right (And.right (by assumption))))))))) | exact rne (And.right (And.right (And.right (And.right (And.right (And.right (And.right (And.right (by assumption))))))))) | exact ren (And.right (And.right (And.right (And.right (And.right (And.right (And.right (And.right (by assumption))))))))) | exact qlt (And.right (And.right (And.right (And.right (And.right (And.right (And.right (And.right (And.right (by assumption)))))))))) | exact qgt (And.right (And.right (And.right (And.right (And.right (And.right (And.right (And.right (And.right (by assumption)))))))))) | exact qne (And.right (And.right (And.right (And.right (And.right (And.right (And.right (And.right (And.right (by assumption)))))))))) | exact qen (And.right (And.right (And.right (And.right (And.right (And.right (And.right (And.right (And.right (by assumption)))))))))) | exact rlt (And.right (And.right (And.right (And.right (And.right (And.right (And.right (And.right (And.right (by assumption)))))))))) | exact rgt (And.right (And.right (And.right (And.right (And.right (And.right (And.right (And.right (And.right (by assumption)))))))))) | exact rne (And.right (And.right (And.right (And.right (And.right (And.right (And.right (And.right (And.right (by assumption)))))))))) | exact ren (And.right (And.right (And.right (And.right (And.right (And.right (And.right (And.right (And.right (by assumption)))))))))) | exact qlt (And.right (And.right (And.right (And.right (And.right (And.right (And.right (And.right (And.right (And.right (by assumption))))))))))) | exact qgt (And.right (And.right (And.right (And.right (And.right (And.right (And.right (And.right (And.right (And.right (by assumption))))))))))) | exact qne (And.right (And.right (And.right (And.right (And.right (And.right (And.right (And.right (And.right (And.right (by assumption))))))))))) | exact qen (And.right (And.right (And.right (And.right (And.right (And.right (And.right (And.right (And.right (And.right (by assumption))))))))))) | exact rlt (And.right (And.right (And.right (And.right (And.right (And.right (And.right (And.right (And.right (And.right (by assumption))))))))))) | exact rgt (And.right (And.right (And.right (And.right (And.right (And.right (And.right (And.right (And.right (And.right (by assumption))))))))))) | exact rne (And.right (And.right (And.right (And.right (And.right (And.right (And.right (And.right (And.right (And.right (by assumption))))))))))) | exact ren (And.right (And.right (And.right (And.right (And.right (And.right (And.right (And.right (And.right (And.right (by assumption))))))))))) | exact qlt (And.right (And.right (And.right (And.right (And.right (And.right (And.right (And.right (And.right (And.right (And.right (by assumption)))))))))))) | exact qgt (And.right (And.right (And.right (And.right (And.right (And.right (And.right (And.right (And.right (And.right (And.right (by assumption)))))))))))) | exact qne (And.right (And.right (And.right (And.right (And.right (And.right (And.right (And.right (And.right (And.right (And.right (by assumption)))))))))))) | exact qen (And.right (And.right (And.right (And.right (And.right (And.right (And.right (And.right (And.right (And.right (And.right (by assumption)))))))))))) | exact rlt (And.right (And.right (And.right (And.right (And.right (And.right (And.right (And.right (And.right (And.right (And.right (by assumption)))))))))))) | exact rgt (And.right (And.right (And.right (And.right (And.right (And.right (And.right (And.right (And.right (And.right (And.right (by assumption)))))))))))) | exact rne (And.right (And.right (And.right (And.right (And.right (And.right (And.right (And.right (And.right (And.right (And.right (by assumption)))))))))))) | exact ren (And.right (And.right (And.right (And.right (And.right (And.right (And.right (And.right (And.right (And.right (And.right (by assumption)))))))))))) | exact qlt (And.right (And.right (And.right (And.right (And.right (And.right (And.right (And.right (And.right (And.right (And.right (And.right (by assumption))))))))))))) | exact qgt (And.right (And.right (And.right (And.right (And.right (And.right (And.right (And.right (And.right (And.right (And.right (And.right (by assumption))))))))))))) | exact qne (And.right (And.right (And.right (And.right (And.right (And.right (And.right (And.right (And.right (And.right (And.right (And.right (by assumption))))))))))))) | exact qen (And.right (And.right (And.right (And.right (And.right (And.right (And.right (And.right (And.right (And.right (And.right (And.right (by assumption))))))))))))) | exact rlt (And.right (And.right (And.right (And.right (And.right (And.right (And.right (And.right (And.right (And.right (And.right (And.right (by assumption))))))))))))) | exact rgt (And.right (And.right (And.right (And.right (And.right (And.right (And.right (And.right (And.right (And.right (And.right (And.right (by assumption))))))))))))) | exact rne (And.right (And.right (And.right (And.right (And.right (And.right (And.right (And.right (And.right (And.right (And.right (And.right (by assumption))))))))))))) | exact ren (And.right (And.right (And.right (And.right (And.right (And.right (And.right (And.right (And.right (And.right (And.right (And.right (by assumption))))))))))))) | exact qlt (And.right (And.right (And.right (And.right (And.right (And.right (And.right (And.right (And.right (And.right (And.right (And.right (And.right (by assumption)))))))))))))) | exact qgt (And.right (And.right (And.right (And.right (And.right (And.right (And.right (And.right (And.right (And.right (And.right (And.right (And.right (by assumption)))))))))))))) | exact qne (And.right (And.right (And.right (And.right (And.right (And.right (And.right (And.right (And.right (And.right (And.right (And.right (And.right (by assumption)))))))))))))) | exact qen (And.right (And.right (And.right (And.right (And.right (And.right (And.right (And.right (And.right (And.right (And.right (And.right (And.right (by assumption)))))))))))))) | exact rlt (And.right (And.right (And.right (And.right (And.right (And.right (And.right (And.right (And.right (And.right (And.right (And.right (And.right (by assumption)))))))))))))) | exact rgt (And.right (And.right (And.right (And.right (And.right (And.right (And.right (And.right (And.right (And.right (And.right (And.right (And.right (by assumption)))))))))))))) | exact rne (And.right (And.right (And.right (And.right (And.right (And.right (And.right (And.right (And.right (And.right (And.right (And.right (And.right (by assumption)))))))))))))) | exact ren (And.right (And.right (And.right (And.right (And.right (And.right (And.right (And.right (And.right (And.right (And.right (And.right (And.right (by assumption)))))))))))))) | exact qlt (And.right (And.right (And.right (And.right (And.right (And.right (And.right (And.right (And.right (And.right (And.right (And.right (And.right (And.right (by assumption))))))))))))))) | exact qgt (And.right (And.right (And.right (And.right (And.right (And.right (And.right (And.right (And.right (And.right (And.right (And.right (And.right (And.right (by assumption))))))))))))))) | exact qne (And.right (And.right (And.right (And.right (And.right (And.right (And.right (And.right (And.right (And.right (And.right (And.right (And.right (And.right (by assumption))))))))))))))) | exact qen (And.right (And.right (And.right (And.right (And.right (And.right (And.right (And.right (And.right (And.right (And.right (And.right (And.right (And.right (by assumption))))))))))))))) | exact rlt (And.right (And.right (And.right (And.right (And.right (And.right (And.right (And.right (And.right (And.right (And.right (And.right (And.right (And.right (by assumption))))))))))))))) | exact rgt (And.right (And.right (And.right (And.right (And.right (And.right (And.right (And.right (And.right (And.right (And.right (And.right (And.right (And.right (by assumption))))))))))))))) | exact rne (And.right (And.right (And.right (And.right (And.right (And.right (And.right (And.right (And.right (And.right (And.right (And.right (And.right (And.right (by assumption))))))))))))))) | exact ren (And.right (And.right (And.right (And.right (And.right (And.right (And.right (And.right (And.right (And.right (And.right (And.right (And.right (And.right (by assumption))))))))))))))) | exact qlt (And.right (And.right (And.right (And.right (And.right (And.right (And.right (And.right (And.right (And.right (And.right (And.right (And.right (And.right (And.right (by assumption)))))))))))))))) | exact qgt (And.right (And.right (And.right (And.right (And.right (And.right (And.right (And.right (And.right (And.right (And.right (And.right (And.right (And.right (And.right (by assumption)))))))))))))))) | exact qne (And.right (And.right (And.right (And.right (And.right (And.right (And.right (And.right (And.right (And.right (And.right (And.right (And.right (And.right (And.right (by assumption)))))))))))))))) | exact qen (And.right (And.right (And.right (And.right (And.right (And.right (And.right (And.right (And.right (And.right (And.right (And.right (And.right (And.right (And.right (by assumption)))))))))))))))) | exact rlt (And.right (And.right (And.right (And.right (And.right (And.right (And.right (And.right (And.right (And.right (And.right (And.right (And.right (And.right (And.right (by assumption)))))))))))))))) | exact rgt (And.right (And.right (And.right (And.right (And.right (And.right (And.right (And.right (And.right (And.right (And.right (And.right (And.right (And.right (And.right (by assumption)))))))))))))))) | exact rne (And.right (And.right (And.right (And.right (And.right (And.right (And.right (And.right (And.right (And.right (And.right (And.right (And.right (And.right (And.right (by assumption)))))))))))))))) | exact ren (And.right (And.right (And.right (And.right (And.right (And.right (And.right (And.right (And.right (And.right (And.right (And.right (And.right (And.right (And.right (by assumption))))))))))))))))))
  trivial
theorem layKc06b2 : True := by
  k_with "mine texts" => ((try dsimp only [← sx0, ← sx1, ← sx2, ← sx3, ← sx4, ← sx5, ← sx6, ← sx7, ← sx8, ← sx9, ← sx10, ← sx11, ← sx12, ← sx13, ← sx14, ← sx15, ← sx16, ← sx17, ← sx18, ← sx19, ← sx20, ← sx21, ← sx22, ← sx23, ← sx24, ← sx25, ← sx26, ← sx27, ← sx28, ← sx29, ← sx30, ← sx31, ← sx32, ← sx33, ← sx34, ← sx35, ← sx36, ← sx37, ← sx38, ← sx39, ← sx40, ← sx41, ← sx42, ← sx43, ← sx44, ← sx45, ← sx46, ← sx47, ← sx48, ← sx49, ← sx50, ← sx51, ← sx52, ← sx53, ← sx54, ← sx55, ← sx56, ← sx57, ← sx58, ← sx59, ← sx60, ← sx61, ← sx62, ← sx63, ← sx64, ← sx65, ← sx66, ← sx67, ← sx68, ← sx69, ← sx70, ← sx71, ← sx72, ← sx73, ← sx74, ← sx75, ← sx76, ← sx77, ← sx78, ← sx79, ← sx80, ← sx81, ← sx82, ← sx83, ← sx84, ← sx85, ← sx86, ← sx87, ← sx88, ← sx89, ← sx90, ← sx91, ← sx92, ← sx93, ← sx94, ← sx95, ← sx96, ← sx97, ← sx98, ← sx99, ← sx100, ← sx101, ← sx102, ← sx103, ← sx104, ← sx105, ← sx106, ← sx107, ← sx108, ← sx109, ← sx110, ← sx111, ← sx112, ← sx113, ← sx114]))
  k_with "mine drop" => (first | (refine' Drop.head ?a; (case a => k_all)) | (refine' Drop.tail ?a ?b; (case a => k_ne); (case b => walk_at "mine drop")))
  k_with "setAttr ref" => ((k_here; k_dflt (first | (refine' exc_set0 ?k1 ?k2 ?k3 ?k4 ?k5 ?k6 ?k7 ?k8 ?k9 ?_; (case k1 => k_asm); (case k2 => k_asm); (case k3 => k_asm); (case k4 => k_mem); (case k5 => k_is); (case k6 => kernel_rfl); (case k7 => k_is); (case k8 => k_is); (case k9 => intro zqd; k_upd); k_whole; intro zqdp zqhp zqFp zqNp zql1; (try k_lt zql1)) | (refine' exc_set_args ?k1 ?k2 ?k3 ?k4 ?k5 ?k6 ?k7 ?k8 ?k9 ?k10 ?_; (case k1 => k_asm); (case k2 => k_asm); (case k3 => k_asm); (case k4 => first | (refine' InstAt.of_exc ?N ?h1 ?h2; (case N => k_asm); (case h1 => k_mem); (case h2 => k_mem)) | (refine' InstAt.of_exc0 ?N ?h1; (case N => k_asm); (case h1 => k_mem))); (case k5 => exact isTup_of (by k_asm) (by k_mem)); (case k6 => k_is); (case k7 => kernel_rfl); (case k8 => k_is); (case k9 => k_is); (case k10 => k_upd); k_whole; intro zqhp zqFp zqNp) | (refine' exc_set ?k1 ?k2 ?k3 ?k4 ?k5 ?k6 ?k7 ?k8 ?k9 ?k10 ?k11 ?k12 ?_; (case k1 => k_asm); (case k2 => k_asm); (case k3 => k_asm); (case k4 => first | (refine' InstAt.of_exc ?N ?h1 ?h2; (case N => k_asm); (case h1 => k_mem); (case h2 => k_mem)) | (refine' InstAt.of_exc0 ?N ?h1; (case N => k_asm); (case h1 => k_mem))); (case k5 => k_is); (case k6 => kernel_rfl); (case k7 => k_is); (case k8 => k_is); (case k9 => k_get); (case k10 => k_put); (case k11 => k_upd); (case k12 => exact Nat.le_of_ble_eq_true rfl); k_whole; intro zqhp zqFp zqNp))))
  k_with "call builtin:Exception.__init__" => ((k_here; k_dflt (refine' exc_init_call ?k1 ?k2 ?k3 ?k4 ?k5 ?k6 ?_; (case k1 => k_asm); (case k2 => k_asm); (case k3 => k_asm); (case k4 => first | (refine' InstAt.of_exc ?N ?h1 ?h2; (case N => k_asm); (case h1 => k_mem); (case h2 => k_mem)) | (refine' InstAt.of_exc0 ?N ?h1; (case N => k_asm); (case h1 => k_mem))); (case k5 => k_is); (case k6 => intro zqt; k_upd); k_whole; intro zqtp zqhp zqFp zqNp zql1; (try k_lt zql1))))
  k_with "call builtin:repr" => ((k_here; k_dflt (refine' repr_use ?k1 ?k2 ?k3 ?k4 ?k5 ?k6 ?k7 ?_; (case k1 => assumption); (case k2 => k_asm); (case k3 => k_asm); (case k4 => exact rfl); (case k5 => exact rfl); (case k6 => exact Nat.le_of_ble_eq_true rfl); (case k7 => exact Nat.le_of_ble_eq_true rfl); k_whole; intro zqhp zqup zqtkp zqFp zqNp)))
  k_with "BackIn" => ((k_dflt (refine' back_ ?k1 ?k2 ?k3 ?_; (case k1 => k_asm); (case k2 => k_asm); (case k3 => walk_at "mine drop"); k_whole; intro zqFp zqNp; (try dsimp only))))
  k_with "call ref" => ((k_here; k_dflt (refine wpAny_call ?_; refine' enter_in ?k1 ?k2 ?k3 ?k4 ?k5 ?k6 ?k7 ?k8 ?kB ?c2 ?c3 ?c4 ?c5 ?_; (case k1 => k_asm); (case k2 => k_asm); (case k3 => k_asm); (case k4 => exact Top.nolimit (by assumption)); (case k5 => k_is); (case k6 => k_is); (case k7 => exact Nat.le_of_ble_eq_true rfl); (case k8 => first | ((with_reducible show BindsTo _ _ ⟨[_], []⟩ _); first | exact BindsTo.of_eq (binds := [(_, _)]) rfl | exact binds_K (binds := [(_, _)]) (by k_in) rfl (by k_is) rfl rfl rfl) | ((with_reducible show BindsTo _ _ ⟨[_, _], []⟩ _); first | exact BindsTo.of_eq (binds := [(_, _), (_, _)]) rfl | exact binds_K (binds := [(_, _), (_, _)]) (by k_in) rfl (by k_is) rfl rfl rfl) | ((with_reducible show BindsTo _ _ ⟨[_, _, _], []⟩ _); first | exact BindsTo.of_eq (binds := [(_, _), (_, _), (_, _)]) rfl | exact binds_K (binds := [(_, _), (_, _), (_, _)]) (by k_in) rfl (by k_is) rfl rfl rfl) | ((with_reducible show BindsTo _ _ ⟨[_, _, _, _], []⟩ _); first | exact BindsTo.of_eq (binds := [(_, _), (_, _), (_, _), (_, _)]) rfl | exact binds_K (binds := [(_, _), (_, _), (_, _), (_, _)]) (by k_in) rfl (by k_is) rfl rfl rfl) | ((with_reducible show BindsTo _ _ ⟨[_, _, _, _, _], []⟩ _); first | exact BindsTo.of_eq (binds := [(_, _), (_, _), (_, _), (_, _), (_, _)]) rfl | exact binds_K (binds := [(_, _), (_, _), (_, _), (_, _), (_, _)]) (by k_in) rfl (by k_is) rfl rfl rfl)); (case c5 => decide); (case kB => exact locs rfl); (case c2 => exact rfl); (case c3 => exact rfl); (case c4 => exact rfl); k_whole; intro zqoLp zqLp zqhp zqtkp zqFp zqNp zql1 zqn1; (try k_lt zql1); (try (replace zqn1 := allNe_of zqn1; simp only [AllNe, and_true] at zqn1)); (try dsimp only); walk_at "mine texts")))
  k_with "call builtin:str.join" => ((k_here; (with_reducible show wpAny _ _ (call (Value.builtin "str.join") [Value.str _ _, Value.ref _]) _ _ _); k_dflt (refine join_listC (by is_list) (by repeat constructor) (by decide) (by (simp only [List.map_cons, List.map_nil, List.sum_cons, List.sum_nil, List.length_cons, List.length_nil]; omega)) ?_); intro zqtp zqkp))
  k_with "getMethod type:Exception" => ((k_here; refine' method_type ?F ?X ?m (by decide +kernel) ?e ?h ?_; (case F => k_asm); (case X => k_asm); (case m => exact meta_Exception); (case e => k_dflt k_is); (case h => k_handed)))
  k_with "compareOp IsNot" => ((k_here; k_dflt (refine isNot_none (by assumption) ?_)))
  k_with "call builtin:str.format" => ((k_here; k_dflt (refine' line_use ?k1 ?k2 ?k3 ?k4 ?k5 ?k6 ?k7 ?_; (case k1 => assumption); (case k2 => k_asm); (case k3 => k_asm); (case k4 => exact rfl); (case k5 => exact rfl); (case k6 => exact Nat.le_of_ble_eq_true rfl); (case k7 => exact Nat.le_of_ble_eq_true rfl); k_whole; intro zqhp zqup zqtkp zqFp zqNp)))
  k_with "call builtin:str.format" => ((k_here; (with_reducible show wpAny _ _ (call (Value.builtin "str.format") [Value.str _ _, _, _, _, _]) _ _ _); k_dflt (refine' fmt_use ?k1 ?k2 ?k3 ?k4 ?k5 ?_; (case k1 => k_asm); (case k2 => k_asm); (case k3 => exact ⟨rfl, rfl, Nat.le_of_ble_eq_true rfl, Nat.le_of_ble_eq_true rfl⟩); (case k4 => exact args_5 _ _ _ _ _); (case k5 => walk_at "mine fmt")); k_whole; intro zqhp zqup zqtkp zqFp zqNp))
  k_with "pyReprObj" => ((k_here; k_dflt (refine' reprObj_use ?k1 ?k2 ?k3 ?k4 ?k5 ?k6 ?k7 ?_; (case k1 => assumption); (case k2 => k_asm); (case k3 => k_asm); (case k4 => exact rfl); (case k5 => exact rfl); (case k6 => exact Nat.le_of_ble_eq_true rfl); (case k7 => exact Nat.le_of_ble_eq_true rfl); k_whole; intro zqhp zqup zqtkp zqFp zqNp)))
  k_with "call ref" => ((k_here; (with_reducible show wpAny _ _ (call (Value.ref 29) [Value.ref _, Value.str _ _]) _ _ _); k_dflt (refine' errIni ?k1 ?k2 ?k3 ?k4 ?k5 ?k6 ?k7 ?_; (case k1 => k_asm); (case k2 => k_asm); (case k3 => assumption); (case k4 => k_asm); (case k5 => k_updF); (case k6 => kernel_rfl); (case k7 => exact Nat.le_of_ble_eq_true rfl)); k_whole; intro zqdp zqtp zqhp zqtkp zqukp zqFp zqNp zql1 zql2 zql3; (try dsimp only at zqNp); (try k_lt zql1); (try k_lt zql2)))
  k_with "mine fmt" => (exact fmtM_meets (by assumption) (by assumption) (by assumption) (by assumption))
  trivial
theorem conIM : ∀ {p : Program} {loose : List Str} {mean : ExcName → Option Value} {mg mb : Str → Option Value} (w : World) (s : Shared) (opt sec raw ref : Value) (ro : Str) (R0 : Rep PySem.Challenge.rw_dm0028_06.prog w s.heap opt ro) (rs : Str) (R1 : Rep PySem.Challenge.rw_dm0028_06.prog w s.heap sec rs) (rf : Str) (R2 : Rep PySem.Challenge.rw_dm0028_06.prog w s.heap ref rf) (rw : Str) (R3 : Rep PySem.Challenge.rw_dm0028_06.prog w s.heap raw rw)
    (Q E : Value → Shared → Prop) (KX : (hz.heap_178 w.params).In s.heap) (T : Top p loose mean mg mb s.heap)
    (hQ : ∀ h' tk e d ta od u, Grow s.heap h' → ErrNew s.heap h' 156 e d ta od (Str.ofString "Bad value substitution: option " ++ ro ++ Str.ofString " in section " ++ rs ++ Str.ofString " contains an interpolation key " ++ rf ++ Str.ofString " which is not a valid option name. Raw value: " ++ rw) u [("option", opt), ("section", sec), ("reference", ref)] [opt, sec, raw, ref] → Q (.ref e) { s with heap := h', toks := tk }),
    wpAny (model PySem.Challenge.rw_dm0028_06.prog w) (AD 600 2000) (call (.ref 156) [opt, sec, raw, ref]) Q E s := by
  w_top off
  k_fill
  intro p loose mean mg mb w s opt sec raw ref ro R0 rs R1 rf R2 rw R3 Q E KX T hQ
  obtain ⟨hh, g, dr, tk, os⟩ := s
  dsimp only at KX T R0 R1 R2 R3 hQ
  have O0 := R0.old
  have sq0 := R0.short
  have O1 := R1.old
  have sq1 := R1.short
  have O2 := R2.old
  have sq2 := R2.short
  have O3 := R3.old
  have sq3 := R3.short
  w_strict (
  refine wpAny_call ?_
  refine exc_make (KX 156 _ (by k_is)) (by decide +kernel) (by decide +kernel) (by decide +kernel) (looks_specialIn KX (by k_is)) (looks_instIn KX (by k_is)) (looks_findIn KX (by k_is)) (fun self => bind_fn KX self (by k_is)) (by size_fits) ?_
  k_dflt (refine' enter_new (h₀ := hh) (binds := [("self", .ref (hh.objs.size + 1)), ("option", opt), ("section", sec), ("rawval", raw), ("reference", ref)]) (news := [(hh.objs.size + 1, excObj 156 none hh.objs.size), (hh.objs.size, tupObj [opt, sec, raw, ref])]) ?k1 ?k2 KX T.nolimit ?k9 ?k5 ?k6 ?k7 ?k8 ?kB ?c2 ?c3 ?c4 ?c5 ?_; (case k5 => k_is); (case k6 => k_is); (case k7 => exact Nat.le_of_ble_eq_true rfl); (case k8 => first | exact BindsTo.of_eq rfl | exact binds_K (Frag.In.keeps KX (made_grow _ _ _)) rfl (by k_is) rfl rfl rfl); (case c5 => decide); (case kB => exact locs rfl); (case c2 => exact rfl); (case c3 => exact rfl); (case c4 => exact rfl); (case k1 => exact made_grow _ _ _); (case k2 => (simp; omega)); (case k9 => exact made_news _ _ _))
  intro L' h' tk' F' N' l1; k_lt l1
  walk_at "mine texts"
  k_steps
  refine ⟨rfl, ?_⟩
  (with_reducible rename Fr _ _ _ _ => Fz)
  (with_reducible rename News _ _ _ _ => Nz)
  refine hQ _ _ _ _ _ _ _ Fz.keep (err_close Nz (by k_mem) (by k_mem) (by k_mem) (Eq.trans (lookIn_dict _ _ _) (by k_get)) ?_)
  intro q hq
  simp only [List.mem_cons, List.not_mem_nil, or_false] at hq
  rcases hq with rfl | rfl | rfl <;> kernel_rfl)
theorem layKc06b3 : True := by
  k_with "mine fmt" => (exact fmtD_meets (by assumption) (by assumption) (by assumption))
  trivial
theorem conID : ∀ {p : Program} {loose : List Str} {mean : ExcName → Option Value} {mg mb : Str → Option Value} (w : World) (s : Shared) (opt sec raw : Value) (ro : Str) (R0 : Rep PySem.Challenge.rw_dm0028_06.prog w s.heap opt ro) (rs : Str) (R1 : Rep PySem.Challenge.rw_dm0028_06.prog w s.heap sec rs) (rw : Str) (R2 : Rep PySem.Challenge.rw_dm0028_06.prog w s.heap raw rw)
    (Q E : Value → Shared → Prop) (KX : (hz.heap_178 w.params).In s.heap) (T : Top p loose mean mg mb s.heap)
    (hQ : ∀ h' tk e d ta od u, Grow s.heap h' → ErrNew s.heap h' 175 e d ta od (Str.ofString "Recursion limit exceeded in value substitution: option " ++ ro ++ Str.ofString " in section " ++ rs ++ Str.ofString " contains an interpolation key which cannot be substituted in " ++ Str.ofString "10" ++ Str.ofString " steps. Raw value: " ++ rw) u [("option", opt), ("section", sec)] [opt, sec, raw] → Q (.ref e) { s with heap := h', toks := tk }),
    wpAny (model PySem.Challenge.rw_dm0028_06.prog w) (AD 600 2000) (call (.ref 175) [opt, sec, raw]) Q E s := by
  w_top off
  k_fill
  intro p loose mean mg mb w s opt sec raw ro R0 rs R1 rw R2 Q E KX T hQ
  obtain ⟨hh, g, dr, tk, os⟩ := s
  dsimp only at KX T R0 R1 R2 hQ
  have O0 := R0.old
  have sq0 := R0.short
  have O1 := R1.old
  have sq1 := R1.short
  have O2 := R2.old
  have sq2 := R2.short
  w_strict (
  refine wpAny_call ?_
  refine exc_make (KX 175 _ (by k_is)) (by decide +kernel) (by decide +kernel) (by decide +kernel) (looks_specialIn KX (by k_is)) (looks_instIn KX (by k_is)) (looks_findIn KX (by k_is)) (fun self => bind_fn KX self (by k_is)) (by size_fits) ?_
  k_dflt (refine' enter_new (h₀ := hh) (binds := [("self", .ref (hh.objs.size + 1)), ("option", opt), ("section", sec), ("rawval", raw)]) (news := [(hh.objs.size + 1, excObj 175 none hh.objs.size), (hh.objs.size, tupObj [opt, sec, raw])]) ?k1 ?k2 KX T.nolimit ?k9 ?k5 ?k6 ?k7 ?k8 ?kB ?c2 ?c3 ?c4 ?c5 ?_; (case k5 => k_is); (case k6 => k_is); (case k7 => exact Nat.le_of_ble_eq_true rfl); (case k8 => first | exact BindsTo.of_eq rfl | exact binds_K (Frag.In.keeps KX (made_grow _ _ _)) rfl (by k_is) rfl rfl rfl); (case c5 => decide); (case kB => exact locs rfl); (case c2 => exact rfl); (case c3 => exact rfl); (case c4 => exact rfl); (case k1 => exact made_grow _ _ _); (case k2 => (simp; omega)); (case k9 => exact made_news _ _ _))
  intro L' h' tk' F' N' l1; k_lt l1
  walk_at "mine texts"
  k_steps
  refine ⟨rfl, ?_⟩
  (with_reducible rename Fr _ _ _ _ => Fz)
  (with_reducible rename News _ _ _ _ => Nz)
  refine hQ _ _ _ _ _ _ _ Fz.keep (err_close Nz (by k_mem) (by k_mem) (by k_mem) (Eq.trans (lookIn_dict _ _ _) (by k_get)) ?_)
  intro q hq
  simp only [List.mem_cons, List.not_mem_nil, or_false] at hq
  rcases hq with rfl | rfl <;> kernel_rfl)
end
section
theorem layKc06c1 : True := by
  k_with_none
  k_with "ne" => (with_reducible (first | exact ns1 | exact ns2 | exact qlt (by assumption) | exact qgt (by assumption) | exact qne (by assumption) | exact qen (by assumption) | exact rlt (by assumption) | exact rgt (by assumption) | exact rne (by assumption) | exact ren (by assumption) | exact qlt (And.right (by assumption)) | exact qgt (And.right (by assumption)) | exact qne (And.right (by assumption)) | exact qen (And.right (by assumption)) | exact rlt (And.right (by assumption)) | exact rgt (And.right (by assumption)) | exact rne (And.right (by assumption)) | exact ren (And.right (by assumption)) | exact qlt (And.right (And.right (by assumption))) | exact qgt (And.right (And.right (by assumption))) | exact qne (And.right (And.right (by assumption))) | exact qen (And.right (And.right (by assumption))) | exact rlt (And.right (And.right (by assumption))) | exact rgt (And.right (And.right (by assumption))) | exact rne (And.right (And.right (by assumption))) | exact ren (And.right (And.right (by assumption))) | exact qlt (And.right (And.right (And.right (by assumption)))) | exact qgt (And.right (And.right (And.right (by assumption)))) | exact qne (And.right (And.right (And.right (by assumption)))) | exact qen (And.right (And.right (And.right (by assumption)))) | exact rlt (And.right (And.right (And.right (by assumption)))) | exact rgt (And.right (And.right (And.right (by assumption)))) | exact rne (And.right (And.right (And.right (by assumption)))) | exact ren (And.right (And.right (And.right (by assumption)))) | exact qlt (And.right (And.right (And.right (And.right (by assumption))))) | exact qgt (And.right (And.right (And.right (And.right (by assumption))))) | exact qne (And.right (And.right (And.right (And.right (by assumption))))) | exact qen (And.right (And.right (And.right (And.right (by assumption))))) | exact rlt (And.right (And.right (And.right (And.right (by assumption))))) | exact rgt (And.right (And.right (And.right (And.right (by assumption))))) | exact rne (And.right (And.right (And.right (And.right (by assumption))))) | exact ren (And.right (And.right (And.right (And.right (by assumption))))) | exact qlt (And.right (And.right (And.right (And.right (And.right (by assumption)))))) | exact qgt (And.right (And.right (And.right (And.right (And.right (by assumption)))))) | exact qne (And.right (And.right (And.right (And.right (And.right (by assumption)))))) | exact qen (And.right (And.right (And.right (And.right (And.right (by assumption)))))) | exact rlt (And.right (And.right (And.right (And.right (And.right (by assumption)))))) | exact rgt (And.right (And.right (And.right (And.right (And.right (by assumption)))))) | exact rne (And.right (And.right (And.right (And.right (And.right (by assumption)))))) | exact ren (And.right (And.right (And.right (And.right (And.right (by assumption)))))) | exact qlt (And.right (And.right (And.right (And.right (And.right (And.right (by assumption))))))) | exact qgt (And.right (And.right (And.right (And.right (And.right (And.right (by assumption))))))) | exact qne (And.right (And.right (And.right (And.right (And.right (And.right (by assumption))))))) | exact qen (And.right (And.right (And.right (And.right (And.right (And.right (by assumption))))))) | exact rlt (And.right (And.right (And.right (And.right (And.right (And.right (by assumption))))))) | exact rgt (And.right (And.right (And.right (And.right (And.right (And.right (by assumption))))))) | exact rne (And.right (And.right (And.right (And.right (And.right (And.right (by assumption))))))) | exact ren (And.right (And.right (And.right (And.right (And.right (And.right (by assumption))))))) | exact qlt (And.right (And.right (And.right (And.right (And.right (And.right (And.right (by assumption)))))))) | exact qgt (And.right (And.right (And.right (And.right (And.right (And.right (And.right (by assumption)))))))) | exact qne (And.right (And.right (And.right (And.right (And.right (And.right (And.right (by assumption)))))))) | exact qen (And.right (And.right (And.right (And.right (And.right (And.right (And.right (by assumption)))))))) | exact rlt (And.right (And.right (And.right (And.right (And.right (And.right (And.right (by assumption)))))))) | exact rgt (And.right (And.right (And.right (And.right (And.right (And.right (And.right (by assumption)))))))) | exact rne (And.right (And.right (And.right (And.right (And.right (And.right (And.right (by assumption)))))))) | exact ren (And.right (And.right (And.right (And.right (And.right (And.right (And.right (by assumption)))))))) | exact qlt (And.right (And.right (And.right (And.right (And.right (And.right (And.right (And.right (by assumption))))))))) | exact qgt (And.right (And.right (And.right (And.right (And.right (And.right (And.right (And.right (by assumption))))))))) | exact qne (And.right (And.right (And.right (And.right (And.right (And.right (And.right (And.right (by assumption))))))))) | exact qen (And.right (And.right (And.right (And.right (And.right (And.right (And.right (And.right (by assumption))))))))) | exact rlt (And.right (And.right (And.right (And.right (And.right (And.right (And.right (And.right (by assumption))))))))) | exact rgt (And.right (And.right (And.right (And.right (And.right (And.right (And.right (And.right (by assumption))))))))) | exact rne (And.right (And.right (And.right (And.right (And.right (And.right (And.right (And.right (by assumption))))))))) | exact ren (And.right (And.right (And.right (And.right (And.right (And.right (And.right (And.right (by assumption))))))))) | exact qlt (And.right (And.right (And.right (And.right (And.right (And.right (And.right (And.right (And.right (by assumption)))))))))) | exact qgt (And.right (And.right (And.right (And.right (And.right (And.right (And.right (And.right (And.right (by assumption)))))))))) | exact qne (And.right (And.right (And.right (And.right (And.right (And.right (And.right (And.right (And.right (by assumption)))))))))) | exact qen (And.right (And.right (And.right (And.right (And.right (And.right (And.right (And.right (And.right (by assumption)))))))))) | exact rlt (And.right (And.right (And.right (And.right (And.right (And.right (And.right (And.right (And.right (by assumption)))))))))) | exact rgt (And.right (And.right (And.right (And.right (And.right (And.right (And.right (And.right (And.right (by assumption)))))))))) | exact rne (And.right (And.right (And.right (And.right (And.right (And.right (And.right (And.right (And.right (by assumption)))))))))) | exact ren (And.right (And.right (And.right (And.right (And.right (And.right (And.right (And.right (And.right (by assumption)))))))))) | exact qlt (And.right (And.right (And.right (And.right (And.right (And.right (And.right (And.right (And.right (And.right (by assumption))))))))))) | exact qgt (And.right (And.right (And.right (And.right (And.right (And.right (And.right (And.right (And.right (And.right (by assumption))))))))))) | exact qne (And.right (And.right (And.right (And.right (And.right (And.right (And.right (And.right (And.right (And.right (by assumption))))))))))) | exact qen (And.right (And.right (And.right (And.right (And.right (And.right (And.right (And.right (And.right (And.right (by assumption))))))))))) | exact rlt (And.right (And.right (And.right (And.right (And.right (And.right (And.right (And.right (And.right (And.right (by assumption))))))))))) | exact rgt (And.right (And.right (And.right (And.right (And.right (And.right (And.right (And.right (And.right (And.right (by assumption))))))))))) | exact rne (And.right (And.right (And.right (And.right (And.right (And.right (And.right (And.right (And.right (And.right (by assumption))))))))))) | exact ren (And.right (And.right (And.right (And.right (And.right (And.right (And.right (And.right (And.right (And.right (by assumption))))))))))) | exact qlt (And.right (And.right (And.right (And.right (And.right (And.right (And.right (And.right (And.right (And.right (And.right (by assumption)))))))))))) | exact qgt (And.right (And.right (And.right (And.right (And.right (And.right (And.right (And.right (And.right (And.right (And.right (by assumption)))))))))))) | exact qne (And.right (And.right (And.right (And.right (And.right (And.right (And.right (And.right (And.right (And.right (And.right (by assumption)))))))))))) | exact qen (And.right (And.right (And.right (And.right (And.right (And.right (And.right (And.right (And.right (And.right (And.right (by assumption)))))))))))) | exact rlt (And.right (And.right (And.right (And.right (And.right (And.right (And.right (And.right (And.right (And.right (And.right (by assumption)))))))))))) | exact rgt (And.right (And.right (And.right (And.right (And.right (And.right (And.right (And.right (And.right (And.right (And.right (by assumption)))))))))))) | exact rne (And.right (And.right (And.right (And.right (And.right (And.right (And.right (And.right (And.right (And.right (And.right (by assumption)))))))))))) | exact ren (And.right (And.right (And.right (And.right (And.right (And.right (And.right (And.right (And.right (And.right (And.right (by assumption)))))))))))) | exact qlt (And.right (And.right (And.right (And.right (And.right (And.right (And.right (And.right (And.right (And.right (And.right (And.right (by assumption))))))))))))) | exact qgt (And.right (And.right (And.right (And.right (And.right (And.right (And.right (And.right (And.right (And.right (And.right (And.right (by assumption))))))))))))) | exact qne (And.right (And.right (And.right (And.right (And.right (And.right (And.right (And.right (And.right (And.right (And.right (And.right (by assumption))))))))))))) | exact qen (And.right (And.right (And.right (And.right (And.right (And.right (And.right (And.right (And.right (And.right (And.right (And.right (by assumption))))))))))))) | exact rlt (And.right (And.right (And.right (And.right (And.right (And.right (And.right (And.right (And.right (And.right (And.right (And.right (by assumption))))))))))))) | exact rgt (And.right (And.right (And.right (And.right (And.right (And.right (And.right (And.right (And.right (And.right (And.right (And.right (by assumption))))))))))))) | exact rne (And.right (And.right (And.right (And.right (And.right (And.right (And.right (And.right (And.right (And.right (And.right (And.right (by assumption))))))))))))) | exact ren (And.right (And.right (And.right (And.right (And.right (And.right (And.right (And.right (And.right (And.right (And.right (And.right (by assumption))))))))))))) | exact qlt (And.right (And.right (And.right (And.right (And.right (And.right (And.right (And.right (And.right (And.right (And.right (And.right (And.right (by assumption)))))))))))))) | exact qgt (And.right (And.right (And.right (And.right (And.right (And.right (And.right (And.right (And.right (And.right (And.right (And.right (And.right (by assumption)))))))))))))) | exact qne (And.right (And.right (And.right (And.right (And.right (And.right (And.right (And.right (And.right (And.right (And.right (And.right (And.right (by assumption)))))))))))))) | exact qen (And.right (And.right (And.right (And.right (And.right (And.right (And.right (And.right (And.right (And.right (And.right (And.right (And.right (by assumption)))))))))))))) | exact rlt (And.right (And.right (And.right (And.right (And.right (And.right (And.right (And.right (And.right (And.right (And.right (And.right (And.right (by assumption)))))))))))))) | exact rgt (And.right (And.right (And.right (And.right (And.right (And.right (And.right (And.right (And.right (And.right (And.right (And.right (And.right (by assumption)))))))))))))) | exact rne (And.right (And.right (And.right (And.right (And.right (And.right (And.right (And.right (And.right (And.right (And.right (And.right (And.right (by assumption)))))))))))))) | exact ren (And.right (And.right (And.right (And.right (And.right (And.right (And.right (And.right (And.right (And.right (And.right (And.right (And.right (by assumption)))))))))))))) | exact qlt (And.right (And.right (And.right (And.right (And.right (And.right (And.right (And.right (And.right (And.right (And.right (And.right (And.right (And.right (by assumption))))))))))))))) | exact qgt (And.right (And.right (And.right (And.right (And.right (And.right (And.right (And.right (And.right (And.right (And.right (And.right (And.right (And.right (by assumption))))))))))))))) | exact qne (And.right (And.right (And.right (And.right (And.right (And.right (And.right (And.right (And.right (And.right (And.right (And.right (And.right (And.right (by assumption))))))))))))))) | exact qen (And.right (And.right (And.right (And.right (And.right (And.right (And.right (And.right (And.right (And.right (And.right (And.right (And.right (And.right (by assumption))))))))))))))) | exact rlt (And.right (And.right (And.right (And.right (And.right (And.right (And.right (And.right (And.right (And.right (And.right (And.right (And.right (And.right (by assumption))))))))))))))) | exact rgt (And.right (And.right (And.right (And.right (And.right (And.right (And.right (And.right (And.right (And.right (And.right (And.right (And.right (And.right (by assumption))))))))))))))) | exact rne (And.right (And.right (And.right (And.right (And.right (And.right (And.right (And.right (And.right (And.right (And.right (And.right (And.right (And.right (by assumption))))))))))))))) | exact ren (And.right (And.right (And.right (And.right (And.right (And.right (And.right (And.right (And.right (And.right (And.right (And.right (And.right (And.right (by assumption))))))))))))))) | exact qlt (And.right (And.right (And.right (And.right (And.right (And.right (And.right (And.right (And.right (And.right (And.right (And.right (And.right (And.right (And.right (by assumption)))))))))))))))) | exact qgt (And.right (And.right (And.right (And.right (And.right (And.right (And.right (And.right (And.right (And.right (And.right (And.right (And.right (And.right (And.right (by assumption)))))))))))))))) | exact qne (And.right (And.right (And.right (And.right (And.right (And.right (And.right (And.right (And.right (And.right (And.right (And.right (And.right (And.right (And.right (by assumption)))))))))))))))) | exact qen (And.right (And.right (And.right (And.right (And.right (And.right (And.right (And.right (And.right (And.right (And.right (And.right (And.right (And.right (And.right (by assumption)))))))))))))))) | exact rlt (And.right (And.right (And.right (And.right (And.right (And.right (And.right (And.right (And.right (And.right (And.right (And.right (And.right (And.right (And.right (by assumption)))))))))))))))) | exact rgt (And.right (And.right (And.right (And.right (And.right (And.right (And.right (And.right (And.right (And.right (And.right (And.right (And.right (And.right (And.right (by assumption)))))))))))))))) | exact rne (And.right (And.right (And.right (And.right (And.right (And.right (And.right (And.right (And.right (And.right (And.right (And.right (And.right (And.right (And.right (by assumption)))))))))))))))) | exact ren (And.right (And.right (And.right (And.right (And.right (And.right (And.right (And.right (And.right (And.right (And.right (And.right (And.right (And.right (And.right (by assumption))))))))))))))))))
  trivial
theorem layKc06c2 : True := by
  k_with "mine texts" => ((try dsimp only [← sx0, ← sx1, ← sx2, ← sx3, ← sx4, ← sx5, ← sx6, ← sx7, ← sx8, ← sx9, ← sx10, ← sx11, ← sx12, ← sx13, ← sx14, ← sx15, ← sx16, ← sx17, ← sx18, ← sx19, ← sx20, ← sx21, ← sx22, ← sx23, ← sx24, ← sx25, ← sx26, ← sx27, ← sx28, ← sx29, ← sx30, ← sx31, ← sx32, ← sx33, ← sx34, ← sx35, ← sx36, ← sx37, ← sx38, ← sx39, ← sx40, ← sx41, ← sx42, ← sx43, ← sx44, ← sx45, ← sx46, ← sx47, ← sx48, ← sx49, ← sx50, ← sx51, ← sx52, ← sx53, ← sx54, ← sx55, ← sx56, ← sx57, ← sx58, ← sx59, ← sx60, ← sx61, ← sx62, ← sx63, ← sx64, ← sx65, ← sx66, ← sx67, ← sx68, ← sx69, ← sx70, ← sx71, ← sx72, ← sx73, ← sx74, ← sx75, ← sx76, ← sx77, ← sx78, ← sx79, ← sx80, ← sx81, ← sx82, ← sx83, ← sx84, ← sx85, ← sx86, ← sx87, ← sx88, ← sx89, ← sx90, ← sx91, ← sx92, ← sx93, ← sx94, ← sx95, ← sx96, ← sx97, ← sx98, ← sx99, ← sx100, ← sx101, ← sx102, ← sx103, ← sx104, ← sx105, ← sx106, ← sx107, ← sx108, ← sx109, ← sx110, ← sx111, ← sx112, ← sx113, ← sx114]))
  k_with "mine drop" => (first | (refine' Drop.head ?a; (case a => k_all)) | (refine' Drop.tail ?a ?b; (case a => k_ne); (case b => walk_at "mine drop")))
  k_with "setAttr ref" => ((k_here; k_dflt (first | (refine' exc_set0 ?k1 ?k2 ?k3 ?k4 ?k5 ?k6 ?k7 ?k8 ?k9 ?_; (case k1 => k_asm); (case k2 => k_asm); (case k3 => k_asm); (case k4 => k_mem); (case k5 => k_is); (case k6 => kernel_rfl); (case k7 => k_is); (case k8 => k_is); (case k9 => intro zqd; k_upd); k_whole; intro zqdp zqhp zqFp zqNp zql1; (try k_lt zql1)) | (refine' exc_set_args ?k1 ?k2 ?k3 ?k4 ?k5 ?k6 ?k7 ?k8 ?k9 ?k10 ?_; (case k1 => k_asm); (case k2 => k_asm); (case k3 => k_asm); (case k4 => first | (refine' InstAt.of_exc ?N ?h1 ?h2; (case N => k_asm); (case h1 => k_mem); (case h2 => k_mem)) | (refine' InstAt.of_exc0 ?N ?h1; (case N => k_asm); (case h1 => k_mem))); (case k5 => exact isTup_of (by k_asm) (by k_mem)); (case k6 => k_is); (case k7 => kernel_rfl); (case k8 => k_is); (case k9 => k_is); (case k10 => k_upd); k_whole; intro zqhp zqFp zqNp) | (refine' exc_set ?k1 ?k2 ?k3 ?k4 ?k5 ?k6 ?k7 ?k8 ?k9 ?k10 ?k11 ?k12 ?_; (case k1 => k_asm); (case k2 => k_asm); (case k3 => k_asm); (case k4 => first | (refine' InstAt.of_exc ?N ?h1 ?h2; (case N => k_asm); (case h1 => k_mem); (case h2 => k_mem)) | (refine' InstAt.of_exc0 ?N ?h1; (case N => k_asm); (case h1 => k_mem))); (case k5 => k_is); (case k6 => kernel_rfl); (case k7 => k_is); (case k8 => k_is); (case k9 => k_get); (case k10 => k_put); (case k11 => k_upd); (case k12 => exact Nat.le_of_ble_eq_true rfl); k_whole; intro zqhp zqFp zqNp))))
  k_with "call builtin:Exception.__init__" => ((k_here; k_dflt (refine' exc_init_call ?k1 ?k2 ?k3 ?k4 ?k5 ?k6 ?_; (case k1 => k_asm); (case k2 => k_asm); (case k3 => k_asm); (case k4 => first | (refine' InstAt.of_exc ?N ?h1 ?h2; (case N => k_asm); (case h1 => k_mem); (case h2 => k_mem)) | (refine' InstAt.of_exc0 ?N ?h1; (case N => k_asm); (case h1 => k_mem))); (case k5 => k_is); (case k6 => intro zqt; k_upd); k_whole; intro zqtp zqhp zqFp zqNp zql1; (try k_lt zql1))))
  k_with "call builtin:repr" => ((k_here; k_dflt (refine' repr_use ?k1 ?k2 ?k3 ?k4 ?k5 ?k6 ?k7 ?_; (case k1 => assumption); (case k2 => k_asm); (case k3 => k_asm); (case k4 => exact rfl); (case k5 => exact rfl); (case k6 => exact Nat.le_of_ble_eq_true rfl); (case k7 => exact Nat.le_of_ble_eq_true rfl); k_whole; intro zqhp zqup zqtkp zqFp zqNp)))
  k_with "BackIn" => ((k_dflt (refine' back_ ?k1 ?k2 ?k3 ?_; (case k1 => k_asm); (case k2 => k_asm); (case k3 => walk_at "mine drop"); k_whole; intro zqFp zqNp; (try dsimp only))))
  k_with "call ref" => ((k_here; k_dflt (refine wpAny_call ?_; refine' enter_in ?k1 ?k2 ?k3 ?k4 ?k5 ?k6 ?k7 ?k8 ?kB ?c2 ?c3 ?c4 ?c5 ?_; (case k1 => k_asm); (case k2 => k_asm); (case k3 => k_asm); (case k4 => exact Top.nolimit (by assumption)); (case k5 => k_is); (case k6 => k_is); (case k7 => exact Nat.le_of_ble_eq_true rfl); (case k8 => first | ((with_reducible show BindsTo _ _ ⟨[_], []⟩ _); first | exact BindsTo.of_eq (binds := [(_, _)]) rfl | exact binds_K (binds := [(_, _)]) (by k_in) rfl (by k_is) rfl rfl rfl) | ((with_reducible show BindsTo _ _ ⟨[_, _], []⟩ _); first | exact BindsTo.of_eq (binds := [(_, _), (_, _)]) rfl | exact binds_K (binds := [(_, _), (_, _)]) (by k_in) rfl (by k_is) rfl rfl rfl) | ((with_reducible show BindsTo _ _ ⟨[_, _, _], []⟩ _); first | exact BindsTo.of_eq (binds := [(_, _), (_, _), (_, _)]) rfl | exact binds_K (binds := [(_, _), (_, _), (_, _)]) (by k_in) rfl (by k_is) rfl rfl rfl) | ((with_reducible show BindsTo _ _ ⟨[_, _, _, _], []⟩ _); first | exact BindsTo.of_eq (binds := [(_, _), (_, _), (_, _), (_, _)]) rfl | exact binds_K (binds := [(_, _), (_, _), (_, _), (_, _)]) (by k_in) rfl (by k_is) rfl rfl rfl) | ((with_reducible show BindsTo _ _ ⟨[_, _, _, _, _], []⟩ _); first | exact BindsTo.of_eq (binds := [(_, _), (_, _), (_, _), (_, _), (_, _)]) rfl | exact binds_K (binds := [(_, _), (_, _), (_, _), (_, _), (_, _)]) (by k_in) rfl (by k_is) rfl rfl rfl)); (case c5 => decide); (case kB => exact locs rfl); (case c2 => exact rfl); (case c3 => exact rfl); (case c4 => exact rfl); k_whole; intro zqoLp zqLp zqhp zqtkp zqFp zqNp zql1 zqn1; (try k_lt zql1); (try (replace zqn1 := allNe_of zqn1; simp only [AllNe, and_true] at zqn1)); (try dsimp only); walk_at "mine texts")))
  k_with "call builtin:str.join" => ((k_here; (with_reducible show wpAny _ _ (call (Value.builtin "str.join") [Value.str _ _, Value.ref _]) _ _ _); k_dflt (refine join_listC (by is_list) (by repeat constructor) (by decide) (by (simp only [List.map_cons, List.map_nil, List.sum_cons, List.sum_nil, List.length_cons, List.length_nil]; omega)) ?_); intro zqtp zqkp))
  k_with "getMethod type:Exception" => ((k_here; refine' method_type ?F ?X ?m (by decide +kernel) ?e ?h ?_; (case F => k_asm); (case X => k_asm); (case m => exact meta_Exception); (case e => k_dflt k_is); (case h => k_handed)))
  k_with "compareOp IsNot" => ((k_here; k_dflt (refine isNot_none (by assumption) ?_)))
  k_with "call builtin:str.format" => ((k_here; k_dflt (refine' line_use ?k1 ?k2 ?k3 ?k4 ?k5 ?k6 ?k7 ?_; (case k1 => assumption); (case k2 => k_asm); (case k3 => k_asm); (case k4 => exact rfl); (case k5 => exact rfl); (case k6 => exact Nat.le_of_ble_eq_true rfl); (case k7 => exact Nat.le_of_ble_eq_true rfl); k_whole; intro zqhp zqup zqtkp zqFp zqNp)))
  k_with "call builtin:str.format" => ((k_here; (with_reducible show wpAny _ _ (call (Value.builtin "str.format") [Value.str _ _, _, _, _, _]) _ _ _); k_dflt (refine' fmt_use ?k1 ?k2 ?k3 ?k4 ?k5 ?_; (case k1 => k_asm); (case k2 => k_asm); (case k3 => exact ⟨rfl, rfl, Nat.le_of_ble_eq_true rfl, Nat.le_of_ble_eq_true rfl⟩); (case k4 => exact args_5 _ _ _ _ _); (case k5 => walk_at "mine fmt")); k_whole; intro zqhp zqup zqtkp zqFp zqNp))
  k_with "pyReprObj" => ((k_here; k_dflt (refine' reprObj_use ?k1 ?k2 ?k3 ?k4 ?k5 ?k6 ?k7 ?_; (case k1 => assumption); (case k2 => k_asm); (case k3 => k_asm); (case k4 => exact rfl); (case k5 => exact rfl); (case k6 => exact Nat.le_of_ble_eq_true rfl); (case k7 => exact Nat.le_of_ble_eq_true rfl); k_whole; intro zqhp zqup zqtkp zqFp zqNp)))
  k_with "call ref" => ((k_here; (with_reducible show wpAny _ _ (call (Value.ref 29) [Value.ref _, Value.str _ _]) _ _ _); k_dflt (refine' errIni ?k1 ?k2 ?k3 ?k4 ?k5 ?k6 ?k7 ?_; (case k1 => k_asm); (case k2 => k_asm); (case k3 => assumption); (case k4 => k_asm); (case k5 => k_updF); (case k6 => kernel_rfl); (case k7 => exact Nat.le_of_ble_eq_true rfl)); k_whole; intro zqdp zqtp zqhp zqtkp zqukp zqFp zqNp zql1 zql2 zql3; (try dsimp only at zqNp); (try k_lt zql1); (try k_lt zql2)))
  trivial
theorem conDSi : ∀ {p : Program} {loose : List Str} {mean : ExcName → Option Value} {mg mb : Str → Option Value} (w : World) (s : Shared) (sec src : Value) (hn : src ≠ .none) (n : Int) (nt : Tok) (ln : Str) (RL : Lines PySem.Challenge.rw_dm0028_06.prog w n ln) (rs : Str) (R0 : Rep PySem.Challenge.rw_dm0028_06.prog w s.heap sec rs) (rc : Str) (R1 : Rep PySem.Challenge.rw_dm0028_06.prog w s.heap src rc)
    (Q E : Value → Shared → Prop) (KX : (hz.heap_178 w.params).In s.heap) (T : Top p loose mean mg mb s.heap)
    (hQ : ∀ h' tk e d ta od u, Grow s.heap h' → ErrNew s.heap h' 79 e d ta od (Txt.join (Str.ofString "") [Str.ofString "While reading from ", rc, ln, Str.ofString ": section ", rs, Str.ofString " already exists"]) u [("section", sec), ("source", src), ("lineno", .int n nt)] [sec, src, .int n nt] → Q (.ref e) { s with heap := h', toks := tk }),
    wpAny (model PySem.Challenge.rw_dm0028_06.prog w) (AD 600 2000) (call (.ref 79) [sec, src, .int n nt]) Q E s := by
  w_top off
  k_fill
  intro p loose mean mg mb w s sec src hn n nt ln RL rs R0 rc R1 Q E KX T hQ
  obtain ⟨hh, g, dr, tk, os⟩ := s
  dsimp only at KX T R0 R1 hQ
  have lq0 : (Str.ofString "While reading from ").length ≤ 200 := Nat.le_of_ble_eq_true rfl
  have lq1 : (Str.ofString ": section ").length ≤ 200 := Nat.le_of_ble_eq_true rfl
  have lq2 : (Str.ofString "Section ").length ≤ 200 := Nat.le_of_ble_eq_true rfl
  have lq3 : (Str.ofString " in section ").length ≤ 200 := Nat.le_of_ble_eq_true rfl
  have lq4 : (Str.ofString " already exists").length ≤ 200 := Nat.le_of_ble_eq_true rfl
  have sqL := RL.short
  have O0 := R0.old
  have sq0 := R0.short
  have O1 := R1.old
  have sq1 := R1.short
  w_strict (
  refine wpAny_call ?_
  refine exc_make (KX 79 _ (by k_is)) (by decide +kernel) (by decide +kernel) (by decide +kernel) (looks_specialIn KX (by k_is)) (looks_instIn KX (by k_is)) (looks_findIn KX (by k_is)) (fun self => bind_fn KX self (by k_is)) (by size_fits) ?_
  k_dflt (refine' enter_new (h₀ := hh) (binds := [("self", .ref (hh.objs.size + 1)), ("section", sec), ("source", src), ("lineno", .int n nt)]) (news := [(hh.objs.size + 1, excObj 79 none hh.objs.size), (hh.objs.size, tupObj [sec, src, .int n nt])]) ?k1 ?k2 KX T.nolimit ?k9 ?k5 ?k6 ?k7 ?k8 ?kB ?c2 ?c3 ?c4 ?c5 ?_; (case k5 => k_is); (case k6 => k_is); (case k7 => exact Nat.le_of_ble_eq_true rfl); (case k8 => first | exact BindsTo.of_eq rfl | exact binds_K (Frag.In.keeps KX (made_grow _ _ _)) rfl (by k_is) rfl rfl rfl); (case c5 => decide); (case kB => exact locs rfl); (case c2 => exact rfl); (case c3 => exact rfl); (case c4 => exact rfl); (case k1 => exact made_grow _ _ _); (case k2 => (simp; omega)); (case k9 => exact made_news _ _ _))
  intro L' h' tk' F' N' l1; k_lt l1
  walk_at "mine texts"
  k_steps
  refine ⟨rfl, ?_⟩
  (with_reducible rename Fr _ _ _ _ => Fz)
  (with_reducible rename News _ _ _ _ => Nz)
  refine hQ _ _ _ _ _ _ _ Fz.keep (err_close Nz (by k_mem) (by k_mem) (by k_mem) (Eq.trans (lookIn_dict _ _ _) (by k_get)) ?_)
  intro q hq
  simp only [List.mem_cons, List.not_mem_nil, or_false] at hq
  rcases hq with rfl | rfl | rfl <;> kernel_rfl)
theorem conDOi : ∀ {p : Program} {loose : List Str} {mean : ExcName → Option Value} {mg mb : Str → Option Value} (w : World) (s : Shared) (sec opt src : Value) (hn : src ≠ .none) (n : Int) (nt : Tok) (ln : Str) (RL : Lines PySem.Challenge.rw_dm0028_06.prog w n ln) (rs : Str) (R0 : Rep PySem.Challenge.rw_dm0028_06.prog w s.heap sec rs) (ro : Str) (R1 : Rep PySem.Challenge.rw_dm0028_06.prog w s.heap opt ro) (rc : Str) (R2 : Rep PySem.Challenge.rw_dm0028_06.prog w s.heap src rc)
    (Q E : Value → Shared → Prop) (KX : (hz.heap_178 w.params).In s.heap) (T : Top p loose mean mg mb s.heap)
    (hQ : ∀ h' tk e d ta od u, Grow s.heap h' → ErrNew s.heap h' 99 e d ta od (Txt.join (Str.ofString "") [Str.ofString "While reading from ", rc, ln, Str.ofString ": option ", ro, Str.ofString " in section ", rs, Str.ofString " already exists"]) u [("section", sec), ("option", opt), ("source", src), ("lineno", .int n nt)] [sec, opt, src, .int n nt] → Q (.ref e) { s with heap := h', toks := tk }),
    wpAny (model PySem.Challenge.rw_dm0028_06.prog w) (AD 600 2000) (call (.ref 99) [sec, opt, src, .int n nt]) Q E s := by
  w_top off
  k_fill
  intro p loose mean mg mb w s sec opt src hn n nt ln RL rs R0 ro R1 rc R2 Q E KX T hQ
  obtain ⟨hh, g, dr, tk, os⟩ := s
  dsimp only at KX T R0 R1 R2 hQ
  have lq0 : (Str.ofString "While reading from ").length ≤ 200 := Nat.le_of_ble_eq_true rfl
  have lq1 : (Str.ofString ": option ").length ≤ 200 := Nat.le_of_ble_eq_true rfl
  have lq2 : (Str.ofString "Option ").length ≤ 200 := Nat.le_of_ble_eq_true rfl
  have lq3 : (Str.ofString " in section ").length ≤ 200 := Nat.le_of_ble_eq_true rfl
  have lq4 : (Str.ofString " already exists").length ≤ 200 := Nat.le_of_ble_eq_true rfl
  have sqL := RL.short
  have O0 := R0.old
  have sq0 := R0.short
  have O1 := R1.old
  have sq1 := R1.short
  have O2 := R2.old
  have sq2 := R2.short
  w_strict (
  refine wpAny_call ?_
  refine exc_make (KX 99 _ (by k_is)) (by decide +kernel) (by decide +kernel) (by decide +kernel) (looks_specialIn KX (by k_is)) (looks_instIn KX (by k_is)) (looks_findIn KX (by k_is)) (fun self => bind_fn KX self (by k_is)) (by size_fits) ?_
  k_dflt (refine' enter_new (h₀ := hh) (binds := [("self", .ref (hh.objs.size + 1)), ("section", sec), ("option", opt), ("source", src), ("lineno", .int n nt)]) (news := [(hh.objs.size + 1, excObj 99 none hh.objs.size), (hh.objs.size, tupObj [sec, opt, src, .int n nt])]) ?k1 ?k2 KX T.nolimit ?k9 ?k5 ?k6 ?k7 ?k8 ?kB ?c2 ?c3 ?c4 ?c5 ?_; (case k5 => k_is); (case k6 => k_is); (case k7 => exact Nat.le_of_ble_eq_true rfl); (case k8 => first | exact BindsTo.of_eq rfl | exact binds_K (Frag.In.keeps KX (made_grow _ _ _)) rfl (by k_is) rfl rfl rfl); (case c5 => decide); (case kB => exact locs rfl); (case c2 => exact rfl); (case c3 => exact rfl); (case c4 => exact rfl); (case k1 => exact made_grow _ _ _); (case k2 => (simp; omega)); (case k9 => exact made_news _ _ _))
  intro L' h' tk' F' N' l1; k_lt l1
  walk_at "mine texts"
  k_steps
  refine ⟨rfl, ?_⟩
  (with_reducible rename Fr _ _ _ _ => Fz)
  (with_reducible rename News _ _ _ _ => Nz)
  refine hQ _ _ _ _ _ _ _ Fz.keep (err_close Nz (by k_mem) (by k_mem) (by k_mem) (Eq.trans (lookIn_dict _ _ _) (by k_get)) ?_)
  intro q hq
  simp only [List.mem_cons, List.not_mem_nil, or_false] at hq
  rcases hq with rfl | rfl | rfl | rfl <;> kernel_rfl)
theorem conDOo : ∀ {p : Program} {loose : List Str} {mean : ExcName → Option Value} {mg mb : Str → Option Value} (w : World) (s : Shared) (sec opt src : Value) (hn : src ≠ .none) (rs : Str) (R0 : Rep PySem.Challenge.rw_dm0028_06.prog w s.heap sec rs) (ro : Str) (R1 : Rep PySem.Challenge.rw_dm0028_06.prog w s.heap opt ro) (rc : Str) (R2 : Rep PySem.Challenge.rw_dm0028_06.prog w s.heap src rc)
    (Q E : Value → Shared → Prop) (KX : (hz.heap_178 w.params).In s.heap) (T : Top p loose mean mg mb s.heap)
    (hQ : ∀ h' tk e d ta od u, Grow s.heap h' → ErrNew s.heap h' 99 e d ta od (Txt.join (Str.ofString "") [Str.ofString "While reading from ", rc, Str.ofString ": option ", ro, Str.ofString " in section ", rs, Str.ofString " already exists"]) u [("section", sec), ("option", opt), ("source", src), ("lineno", .none)] [sec, opt, src, .none] → Q (.ref e) { s with heap := h', toks := tk }),
    wpAny (model PySem.Challenge.rw_dm0028_06.prog w) (AD 600 2000) (call (.ref 99) [sec, opt, src]) Q E s := by
  w_top off
  k_fill
  intro p loose mean mg mb w s sec opt src hn rs R0 ro R1 rc R2 Q E KX T hQ
  obtain ⟨hh, g, dr, tk, os⟩ := s
  dsimp only at KX T R0 R1 R2 hQ
  have lq0 : (Str.ofString "While reading from ").length ≤ 200 := Nat.le_of_ble_eq_true rfl
  have lq1 : (Str.ofString ": option ").length ≤ 200 := Nat.le_of_ble_eq_true rfl
  have lq2 : (Str.ofString "Option ").length ≤ 200 := Nat.le_of_ble_eq_true rfl
  have lq3 : (Str.ofString " in section ").length ≤ 200 := Nat.le_of_ble_eq_true rfl
  have lq4 : (Str.ofString " already exists").length ≤ 200 := Nat.le_of_ble_eq_true rfl
  have O0 := R0.old
  have sq0 := R0.short
  have O1 := R1.old
  have sq1 := R1.short
  have O2 := R2.old
  have sq2 := R2.short
  w_strict (
  refine wpAny_call ?_
  refine exc_make (KX 99 _ (by k_is)) (by decide +kernel) (by decide +kernel) (by decide +kernel) (looks_specialIn KX (by k_is)) (looks_instIn KX (by k_is)) (looks_findIn KX (by k_is)) (fun self => bind_fn KX self (by k_is)) (by size_fits) ?_
  k_dflt (refine' enter_new (h₀ := hh) (binds := [("self", .ref (hh.objs.size + 1)), ("section", sec), ("option", opt), ("source", src), ("lineno", .none)]) (news := [(hh.objs.size + 1, excObj 99 none hh.objs.size), (hh.objs.size, tupObj [sec, opt, src])]) ?k1 ?k2 KX T.nolimit ?k9 ?k5 ?k6 ?k7 ?k8 ?kB ?c2 ?c3 ?c4 ?c5 ?_; (case k5 => k_is); (case k6 => k_is); (case k7 => exact Nat.le_of_ble_eq_true rfl); (case k8 => first | exact BindsTo.of_eq rfl | exact binds_K (Frag.In.keeps KX (made_grow _ _ _)) rfl (by k_is) rfl rfl rfl); (case c5 => decide); (case kB => exact locs rfl); (case c2 => exact rfl); (case c3 => exact rfl); (case c4 => exact rfl); (case k1 => exact made_grow _ _ _); (case k2 => (simp; omega)); (case k9 => exact made_news _ _ _))
  intro L' h' tk' F' N' l1; k_lt l1
  walk_at "mine texts"
  k_steps
  refine ⟨rfl, ?_⟩
  (with_reducible rename Fr _ _ _ _ => Fz)
  (with_reducible rename News _ _ _ _ => Nz)
  refine hQ _ _ _ _ _ _ _ Fz.keep (err_close Nz (by k_mem) (by k_mem) (by k_mem) (Eq.trans (lookIn_dict _ _ _) (by k_get)) ?_)
  intro q hq
  simp only [List.mem_cons, List.not_mem_nil, or_false] at hq
  rcases hq with rfl | rfl | rfl | rfl <;> kernel_rfl)
end
section
theorem lay3 : True := by
  k_with_none
  k_with "ne" => (with_reducible (first | exact ns1 | exact ns2 | exact qlt (by assumption) | exact qgt (by assumption) | exact qne (by assumption) | exact qen (by assumption) | exact rlt (by assumption) | exact rgt (by assumption) | exact rne (by assumption) | exact ren (by assumption) | exact qlt (And.right (by assumption)) | exact qgt (And.right (by assumption)) | exact qne (And.right (by assumption)) | exact qen (And.right (by assumption)) | exact rlt (And.right (by assumption)) | exact rgt (And.right (by assumption)) | exact rne (And.right (by assumption)) | exact ren (And.right (by assumption)) | exact qlt (And.right (And.right (by assumption))) | exact qgt (And.right (And.right (by assumption))) | exact qne (And.right (And.right (by assumption))) | exact qen (And.right (And.right (by assumption))) | exact rlt (And.right (And.right (by assumption))) | exact rgt (And.right (And.right (by assumption))) | exact rne (And.right (And.right (by assumption))) | exact ren (And.right (And.right (by assumption))) | exact qlt (And.right (And.right (And.right (by assumption)))) | exact qgt (And.right (And.right (And.right (by assumption)))) | exact qne (And.right (And.right (And.right (by assumption)))) | exact qen (And.right (And.right (And.right (by assumption)))) | exact rlt (And.right (And.right (And.right (by assumption)))) | exact rgt (And.right (And.right (And.right (by assumption)))) | exact rne (And.right (And.right (And.right (by assumption)))) | exact ren (And.right (And.right (And.right (by assumption)))) | exact qlt (And.right (And.right (And.right (And.right (by assumption))))) | exact qgt (And.right (And.right (And.right (And.right (by assumption))))) | exact qne (And.right (And.right (And.right (And.right (by assumption))))) | exact qen (And.right (And.right (And.right (And.right (by assumption))))) | exact rlt (And.right (And.right (And.right (And.right (by assumption))))) | exact rgt (And.right (And.right (And.right (And.right (by assumption))))) | exact rne (And.right (And.right (And.right (And.right (by assumption))))) | exact ren (And.right (And.right (And.right (And.right (by assumption))))) | exact qlt (And.right (And.right (And.right (And.right (And.right (by assumption)))))) | exact qgt (And.right (And.right (And.right (And.right (And.right (by assumption)))))) | exact qne (And.right (And.right (And.right (And.right (And.right (by assumption)))))) | exact qen (And.right (And.right (And.right (And.right (And.right (by assumption)))))) | exact rlt (And.right (And.right (And.right (And.right (And.right (by assumption)))))) | exact rgt (And.right (And.right (And.right (And.right (And.right (by assumption)))))) | exact rne (And.right (And.right (And.right (And.right (And.right (by assumption)))))) | exact ren (And.right (And.right (And.right (And.right (And.right (by assumption)))))) | exact qlt (And.right (And.right (And.right (And.right (And.right (And.right (by assumption))))))) | exact qgt (And.right (And.right (And.right (And.right (And.right (And.right (by assumption))))))) | exact qne (And.right (And.right (And.right (And.right (And.right (And.right (by assumption))))))) | exact qen (And.right (And.right (And.right (And.right (And.right (And.right (by assumption))))))) | exact rlt (And.right (And.right (And.right (And.right (And.right (And.right (by assumption))))))) | exact rgt (And.right (And.right (And.right (And.right (And.right (And.right (by assumption))))))) | exact rne (And.right (And.right (And.right (And.right (And.right (And.right (by assumption))))))) | exact ren (And.right (And.right (And.right (And.right (And.right (And.right (by assumption))))))) | exact qlt (And.right (And.right (And.right (And.right (And.right (And.right (And.right (by assumption)))))))) | exact qgt (And.right (And.right (And.right (And.right (And.right (And.right (And.right (by assumption)))))))) | exact qne (And.right (And.right (And.right (And.right (And.right (And.right (And.right (by assumption)))))))) | exact qen (And.right (And.right (And.right (And.right (And.right (And.right (And.right (by assumption)))))))) | exact rlt (And.right (And.right (And.right (And.right (And.right (And.right (And.right (by assumption)))))))) | exact rgt (And.right (And.right (And.right (And.right (And.right (And.right (And.right (by assumption)))))))) | exact rne (And.right (And.right (And.right (And.right (And.right (And.right (And.right (by assumption)))))))) | exact ren (And.right (And.right (And.right (And.right (And.right (And.right (And.right (by assumption)))))))) | exact qlt (And.right (And.right (And.right (And.right (And.right (And.right (And.right (And.right (by assumption))))))))) | exact qgt (And.right (And.right (And.right (And.right (And.right (And.right (And.right (And.right (by assumption))))))))) | exact qne (And.right (And.right (And.right (And.right (And.right (And.right (And.right (And.right (by assumption))))))))) | exact qen (And.right (And.right (And.right (And.right (And.right (And.right (And.right (And.right (by assumption))))))))) | exact rlt (And.right (And.right (And.right (And.right (And.right (And.right (And.right (And.right (by assumption))))))))) | exact rgt (And.right (And.right (And.right (And.right (And.right (And.right (And.right (And.right (by assumption))))))))) | exact rne (And.right (And.right (And.right (And.right (And.right (And.right (And.right (And.right (by assumption))))))))) | exact ren (And.right (And.right (And.right (And.right (And.right (And.right (And.right (And.right (by assumption))))))))) | exact qlt (And.right (And.right (And.right (And.right (And.right (And.right (And.right (And.right (And.right (by assumption)))))))))) | exact qgt (And.right (And.right (And.right (And.right (And.right (And.right (And.right (And.right (And.right (by assumption)))))))))) | exact qne (And.right (And.right (And.right (And.right (And.right (And.right (And.right (And.right (And.right (by assumption)))))))))) | exact qen (And.right (And.right (And.right (And.right (And.right (And.right (And.right (And.right (And.right (by assumption)))))))))) | exact rlt (And.right (And.right (And.right (And.right (And.right (And.right (And.right (And.right (And.right (by assumption)))))))))) | exact rgt (And.right (And.right (And.right (And.right (And.right (And.right (And.right (And.right (And.right (by assumption)))))))))) | exact rne (And.right (And.right (And.right (And.right (And.right (And.right (And.right (And.right (And.right (by assumption)))))))))) | exact ren (And.right (And.right (And.right (And.right (And.right (And.right (And.right (And.right (And.right (by assumption)))))))))) | exact qlt (And.right (And.right (And.right (And.right (And.right (And.right (And.right (And.right (And.right (And.right (by assumption))))))))))) | exact qgt (And.right (And.right (And.right (And.right (And.right (And.right (And.right (And.right (And.right (And.right (by assumption))))))))))) | exact qne (And.right (And.right (And.right (And.right (And.right (And.right (And.right (And.right (And.right (And.right (by assumption))))))))))) | exact qen (And.right (And.right (And.right (And.right (And.right (And.right (And.right (And.right (And.right (And.right (by assumption))))))))))) | exact rlt (And.right (And.right (And.right (And.right (And.right (And.right (And.right (And.right (And.right (And.right (by assumption))))))))))) | exact rgt (And.right (And.right (And.right (And.right (And.right (And.right (And.right (And.right (And.right (And.right (by assumption))))))))))) | exact rne (And.right (And.right (And.right (And.right (And.right (And.right (And.right (And.right (And.right (And.right (by assumption))))))))))) | exact ren (And.right (And.right (And.right (And.right (And.right (And.right (And.right (And.right (And.right (And.right (by assumption))))))))))) | exact qlt (And.right (And.right (And.right (And.right (And.right (And.right (And.right (And.right (And.right (And.right (And.right (by assumption)))))))))))) | exact qgt (And.right (And.right (And.right (And.right (And.right (And.right (And.right (And.right (And.right (And.right (And.right (by assumption)))))))))))) | exact qne (And.right (And.right (And.right (And.right (And.right (And.right (And.right (And.right (And.right (And.right (And.right (by assumption)))))))))))) | exact qen (And.right (And.right (And.right (And.right (And.right (And.right (And.right (And.right (And.right (And.right (And.right (by assumption)))))))))))) | exact rlt (And.right (And.right (And.right (And.right (And.right (And.right (And.right (And.right (And.right (And.right (And.right (by assumption)))))))))))) | exact rgt (And.right (And.right (And.right (And.right (And.right (And.right (And.right (And.right (And.right (And.right (And.right (by assumption)))))))))))) | exact rne (And.right (And.right (And.right (And.right (And.right (And.right (And.right (And.right (And.right (And.right (And.right (by assumption)))))))))))) | exact ren (And.right (And.right (And.right (And.right (And.right (And.right (And.right (And.right (And.right (And.right (And.right (by assumption)))))))))))) | exact qlt (And.right (And.right (And.right (And.right (And.right (And.right (And.right (And.right (And.right (And.right (And.right (And.right (by assumption))))))))))))) | exact qgt (And.right (And.right (And.right (And.right (And.right (And.right (And.right (And.right (And.right (And.right (And.right (And.right (by assumption))))))))))))) | exact qne (And.right (And.right (And.right (And.right (And.right (And.right (And.right (And.right (And.right (And.right (And.right (And.right (by assumption))))))))))))) | exact qen (And.right (And.right (And.right (And.right (And.right (And.right (And.right (And.right (And.right (And.right (And.right (And.right (by assumption))))))))))))) | exact rlt (And.right (And.right (And.right (And.right (And.right (And.right (And.right (And.right (And.right (And.right (And.right (And.right (by assumption))))))))))))) | exact rgt (And.right (And.right (And.right (And.right (And.right (And.right (And.right (And.right (And.right (And.right (And.right (And.right (by assumption))))))))))))) | exact rne (And.right (And.right (And.right (And.right (And.right (And.right (And.right (And.right (And.right (And.right (And.right (And.right (by assumption))))))))))))) | exact ren (And.right (And.right (And.right (And.right (And.right (And.right (And.right (And.right (And.right (And.right (And.right (And.right (by assumption))))))))))))) | exact qlt (And.right (And.right (And.right (And.right (And.right (And.right (And.right (And.right (And.right (And.right (And.right (And.right (And.right (by assumption)))))))))))))) | exact qgt (And.right (And.right (And.right (And.right (And.right (And.right (And.right (And.right (And.right (And.right (And.right (And.right (And.right (by assumption)))))))))))))) | exact qne (And.right (And.right (And.right (And.right (And.right (And.right (And.right (And.right (And.right (And.right (And.right (And.right (And.right (by assumption)))))))))))))) | exact qen (And.right (And.right (And.right (And.right (And.right (And.right (And.right (And.right (And.right (And.right (And.right (And.right (And.right (by assumption)))))))))))))) | exact rlt (And.right (And.right (And.right (And.right (And.right (And.right (And.right (And.right (And.right (And.right (And.right (And.right (And.right (by assumption)))))))))))))) | exact rgt (And.right (And.right (And.right (And.right (And.right (And.right (And.right (And.right (And.right (And.right (And.right (And.right (And.right (by assumption)))))))))))))) | exact rne (And.right (And.right (And.right (And.right (And.right (And.right (And.right (And.right (And.right (And.right (And.right (And.right (And.right (by assumption)))))))))))))) | exact ren (And.right (And.right (And.right (And.right (And.right (And.right (And.right (And.right (And.right (And.right (And.right (And.right (And.right (by assumption)))))))))))))) | exact qlt (And.right (And.right (And.right (And.right (And.right (And.right (And.right (And.right (And.right (And.right (And.right (And.right (And.right (And.right (by assumption))))))))))))))) | exact qgt (And.right (And.right (And.right (And.right (And.right (And.right (And.right (And.right (And.right (And.right (And.right (And.right (And.right (And.right (by assumption))))))))))))))) | exact qne (And.right (And.right (And.right (And.right (And.right (And.right (And.right (And.right (And.right (And.right (And.right (And.right (And.right (And.right (by assumption))))))))))))))) | exact qen (And.right (And.right (And.right (And.right (And.right (And.right (And.right (And.right (And.right (And.right (And.right (And.right (And.right (And.right (by assumption))))))))))))))) | exact rlt (And.right (And.right (And.right (And.right (And.right (And.right (And.right (And.right (And.right (And.right (And.right (And.right (And.right (And.right (by assumption))))))))))))))) | exact rgt (And.right (And.right (And.right (And.right (And.right (And.right (And.right (And.right (And.right (And.right (And.right (And.right (And.right (And.right (by assumption))))))))))))))) | exact rne (And.right (And.right (And.right (And.right (And.right (And.right (And.right (And.right (And.right (And.right (And.right (And.right (And.right (And.right (by assumption))))))))))))))) | exact ren (And.right (And.right (And.right (And.right (And.right (And.right (And.right (And.right (And.right (And.right (And.right (And.right (And.right (And.right (by assumption))))))))))))))) | exact qlt (And.right (And.right (And.right (And.right (And.right (And.right (And.right (And.right (And.right (And.right (And.right (And.right (And.right (And.right (And.right (by assumption)))))))))))))))) | exact qgt (And.right (And.right (And.right (And.right (And.right (And.right (And.right (And.right (And.right (And.right (And.right (And.right (And.right (And.right (And.right (by assumption)))))))))))))))) | exact qne (And.right (And.right (And.right (And.right (And.right (And.right (And.right (And.right (And.right (And.right (And.right (And.right (And.right (And.right (And.right (by assumption)))))))))))))))) | exact qen (And.right (And.right (And.right (And.right (And.right (And.right (And.right (And.right (And.right (And.right (And.right (And.right (And.right (And.right (And.right (by assumption)))))))))))))))) | exact rlt (And.right (And.right (And.right (And.right (And.right (And.right (And.right (And.right (And.right (And.right (And.right (And.right (And.right (And.right (And.right (by assumption)))))))))))))))) | exact rgt (And.right (And.right (And.right (And.right (And.right (And.right (And.right (And.right (And.right (And.right (And.right (And.right (And.right (And.right (And.right (by assumption)))))))))))))))) | exact rne (And.right (And.right (And.right (And.right (And.right (And.right (And.right (And.right (And.right (And.right (And.right (And.right (And.right (And.right (And.right (by assumption)))))))))))))))) | exact ren (And.right (And.right (And.right (And.right (And.right (And.right (And.right (And.right (And.right (And.right (And.right (And.right (And.right (And.right (And.right (by assumption))))))))))))))))))
  trivial
theorem lay4 : True := by
  k_with "mine texts" => ((try dsimp only [← sx0, ← sx1, ← sx2, ← sx3, ← sx4, ← sx5, ← sx6, ← sx7, ← sx8, ← sx9, ← sx10, ← sx11, ← sx12, ← sx13, ← sx14, ← sx15, ← sx16, ← sx17, ← sx18, ← sx19, ← sx20, ← sx21, ← sx22, ← sx23, ← sx24, ← sx25, ← sx26, ← sx27, ← sx28, ← sx29, ← sx30, ← sx31, ← sx32, ← sx33, ← sx34, ← sx35, ← sx36, ← sx37, ← sx38, ← sx39, ← sx40, ← sx41, ← sx42, ← sx43, ← sx44, ← sx45, ← sx46, ← sx47, ← sx48, ← sx49, ← sx50, ← sx51, ← sx52, ← sx53, ← sx54, ← sx55, ← sx56, ← sx57, ← sx58, ← sx59, ← sx60, ← sx61, ← sx62, ← sx63, ← sx64, ← sx65, ← sx66, ← sx67, ← sx68, ← sx69, ← sx70, ← sx71, ← sx72, ← sx73, ← sx74, ← sx75, ← sx76, ← sx77, ← sx78, ← sx79, ← sx80, ← sx81, ← sx82, ← sx83, ← sx84, ← sx85, ← sx86, ← sx87, ← sx88, ← sx89, ← sx90, ← sx91, ← sx92, ← sx93, ← sx94, ← sx95, ← sx96, ← sx97, ← sx98, ← sx99, ← sx100, ← sx101, ← sx102, ← sx103, ← sx104, ← sx105, ← sx106, ← sx107, ← sx108, ← sx109, ← sx110, ← sx111, ← sx112, ← sx113, ← sx114]))
  k_with "mine drop" => (first | (refine' Drop.head ?a; (case a => k_all)) | (refine' Drop.tail ?a ?b; (case a => k_ne); (case b => walk_at "mine drop")))
  k_with "setAttr ref" => ((k_here; k_dflt (first | (refine' exc_set0 ?k1 ?k2 ?k3 ?k4 ?k5 ?k6 ?k7 ?k8 ?k9 ?_; (case k1 => k_asm); (case k2 => k_asm); (case k3 => k_asm); (case k4 => k_mem); (case k5 => k_is); (case k6 => kernel_rfl); (case k7 => k_is); (case k8 => k_is); (case k9 => intro zqd; k_upd); k_whole; intro zqdp zqhp zqFp zqNp zql1; (try k_lt zql1)) | (refine' exc_set_args ?k1 ?k2 ?k3 ?k4 ?k5 ?k6 ?k7 ?k8 ?k9 ?k10 ?_; (case k1 => k_asm); (case k2 => k_asm); (case k3 => k_asm); (case k4 => first | (refine' InstAt.of_exc ?N ?h1 ?h2; (case N => k_asm); (case h1 => k_mem); (case h2 => k_mem)) | (refine' InstAt.of_exc0 ?N ?h1; (case N => k_asm); (case h1 => k_mem))); (case k5 => exact isTup_of (by k_asm) (by k_mem)); (case k6 => k_is); (case k7 => kernel_rfl); (case k8 => k_is); (case k9 => k_is); (case k10 => k_upd); k_whole; intro zqhp zqFp zqNp) | (refine' exc_set ?k1 ?k2 ?k3 ?k4 ?k5 ?k6 ?k7 ?k8 ?k9 ?k10 ?k11 ?k12 ?_; (case k1 => k_asm); (case k2 => k_asm); (case k3 => k_asm); (case k4 => first | (refine' InstAt.of_exc ?N ?h1 ?h2; (case N => k_asm); (case h1 => k_mem); (case h2 => k_mem)) | (refine' InstAt.of_exc0 ?N ?h1; (case N => k_asm); (case h1 => k_mem))); (case k5 => k_is); (case k6 => kernel_rfl); (case k7 => k_is); (case k8 => k_is); (case k9 => k_get); (case k10 => k_put); (case k11 => k_upd); (case k12 => exact Nat.le_of_ble_eq_true rfl); k_whole; intro zqhp zqFp zqNp))))
  k_with "call builtin:Exception.__init__" => ((k_here; k_dflt (refine' exc_init_call ?k1 ?k2 ?k3 ?k4 ?k5 ?k6 ?_; (case k1 => k_asm); (case k2 => k_asm); (case k3 => k_asm); (case k4 => first | (refine' InstAt.of_exc ?N ?h1 ?h2; (case N => k_asm); (case h1 => k_mem); (case h2 => k_mem)) | (refine' InstAt.of_exc0 ?N ?h1; (case N => k_asm); (case h1 => k_mem))); (case k5 => k_is); (case k6 => intro zqt; k_upd); k_whole; intro zqtp zqhp zqFp zqNp zql1; (try k_lt zql1))))
  k_with "call builtin:repr" => ((k_here; k_dflt (refine' repr_use ?k1 ?k2 ?k3 ?k4 ?k5 ?k6 ?k7 ?_; (case k1 => assumption); (case k2 => k_asm); (case k3 => k_asm); (case k4 => exact rfl); (case k5 => exact rfl); (case k6 => exact Nat.le_of_ble_eq_true rfl); (case k7 => exact Nat.le_of_ble_eq_true rfl); k_whole; intro zqhp zqup zqtkp zqFp zqNp)))
  k_with "BackIn" => ((k_dflt (refine' back_ ?k1 ?k2 ?k3 ?_; (case k1 => k_asm); (case k2 => k_asm); (case k3 => walk_at "mine drop"); k_whole; intro zqFp zqNp; (try dsimp only))))
  k_with "call ref" => ((k_here; k_dflt (refine wpAny_call ?_; refine' enter_in ?k1 ?k2 ?k3 ?k4 ?k5 ?k6 ?k7 ?k8 ?kB ?c2 ?c3 ?c4 ?c5 ?_; (case k1 => k_asm); (case k2 => k_asm); (case k3 => k_asm); (case k4 => exact Top.nolimit (by assumption)); (case k5 => k_is); (case k6 => k_is); (case k7 => exact Nat.le_of_ble_eq_true rfl); (case k8 => first | ((with_reducible show BindsTo _ _ ⟨[_], []⟩ _); first | exact BindsTo.of_eq (binds := [(_, _)]) rfl | exact binds_K (binds := [(_, _)]) (by k_in) rfl (by k_is) rfl rfl rfl) | ((with_reducible show BindsTo _ _ ⟨[_, _], []⟩ _); first | exact BindsTo.of_eq (binds := [(_, _), (_, _)]) rfl | exact binds_K (binds := [(_, _), (_, _)]) (by k_in) rfl (by k_is) rfl rfl rfl) | ((with_reducible show BindsTo _ _ ⟨[_, _, _], []⟩ _); first | exact BindsTo.of_eq (binds := [(_, _), (_, _), (_, _)]) rfl | exact binds_K (binds := [(_, _), (_, _), (_, _)]) (by k_in) rfl (by k_is) rfl rfl rfl) | ((with_reducible show BindsTo _ _ ⟨[_, _, _, _], []⟩ _); first | exact BindsTo.of_eq (binds := [(_, _), (_, _), (_, _), (_, _)]) rfl | exact binds_K (binds := [(_, _), (_, _), (_, _), (_, _)]) (by k_in) rfl (by k_is) rfl rfl rfl) | ((with_reducible show BindsTo _ _ ⟨[_, _, _, _, _], []⟩ _); first | exact BindsTo.of_eq (binds := [(_, _), (_, _), (_, _), (_, _), (_, _)]) rfl | exact binds_K (binds := [(_, _), (_, _), (_, _), (_, _), (_, _)]) (by k_in) rfl (by k_is) rfl rfl rfl)); (case c5 => decide); (case kB => exact locs rfl); (case c2 => exact rfl); (case c3 => exact rfl); (case c4 => exact rfl); k_whole; intro zqoLp zqLp zqhp zqtkp zqFp zqNp zql1 zqn1; (try k_lt zql1); (try (replace zqn1 := allNe_of zqn1; simp only [AllNe, and_true] at zqn1)); (try dsimp only); walk_at "mine texts")))
  k_with "call builtin:str.join" => ((k_here; (with_reducible show wpAny _ _ (call (Value.builtin "str.join") [Value.str _ _, Value.ref _]) _ _ _); k_dflt (refine join_listC (by is_list) (by repeat constructor) (by decide) (by (simp only [List.map_cons, List.map_nil, List.sum_cons, List.sum_nil, List.length_cons, List.length_nil]; omega)) ?_); intro zqtp zqkp))
  k_with "getMethod type:Exception" => ((k_here; refine' method_type ?F ?X ?m (by decide +kernel) ?e ?h ?_; (case F => k_asm); (case X => k_asm); (case m => exact meta_Exception); (case e => k_dflt k_is); (case h => k_handed)))
  k_with "compareOp IsNot" => ((k_here; k_dflt (refine isNot_none (by assumption) ?_)))
  k_with "call builtin:str.format" => ((k_here; k_dflt (refine' line_use ?k1 ?k2 ?k3 ?k4 ?k5 ?k6 ?k7 ?_; (case k1 => assumption); (case k2 => k_asm); (case k3 => k_asm); (case k4 => exact rfl); (case k5 => exact rfl); (case k6 => exact Nat.le_of_ble_eq_true rfl); (case k7 => exact Nat.le_of_ble_eq_true rfl); k_whole; intro zqhp zqup zqtkp zqFp zqNp)))
  k_with "call builtin:str.format" => ((k_here; (with_reducible show wpAny _ _ (call (Value.builtin "str.format") [Value.str _ _, _, _, _, _]) _ _ _); k_dflt (refine' fmt_use ?k1 ?k2 ?k3 ?k4 ?k5 ?_; (case k1 => k_asm); (case k2 => k_asm); (case k3 => exact ⟨rfl, rfl, Nat.le_of_ble_eq_true rfl, Nat.le_of_ble_eq_true rfl⟩); (case k4 => exact args_5 _ _ _ _ _); (case k5 => walk_at "mine fmt")); k_whole; intro zqhp zqup zqtkp zqFp zqNp))
  k_with "pyReprObj" => ((k_here; k_dflt (refine' reprObj_use ?k1 ?k2 ?k3 ?k4 ?k5 ?k6 ?k7 ?_; (case k1 => assumption); (case k2 => k_asm); (case k3 => k_asm); (case k4 => exact rfl); (case k5 => exact rfl); (case k6 => exact Nat.le_of_ble_eq_true rfl); (case k7 => exact Nat.le_of_ble_eq_true rfl); k_whole; intro zqhp zqup zqtkp zqFp zqNp)))
  k_with "call ref" => ((k_here; (with_reducible show wpAny _ _ (call (Value.ref 59) [_]) _ _ _); k_dflt (refine' err_use (fun Q E hQ => conNS _ _ _ _ (by first | exact rep_str (by decide +kernel) | exact Rep.mono (by assumption) (Fr.keep (by k_asm)) | exact rep_two (by k_asm) (by k_mem) (by assumption) (by assumption) (Fr.keep (by k_asm))) Q E (by k_in) (Top.keeps (by assumption) (Fr.keep (by k_asm))) hQ) ?k1 ?k2 ?k3 ?k4 ?k5 ?k6 ?_; (case k1 => k_asm); (case k2 => k_asm); (case k3 => exact rfl); (case k4 => exact rfl); (case k5 => exact Nat.le_of_ble_eq_true rfl); (case k6 => exact Nat.le_of_ble_eq_true rfl); k_whole; intro zqhp zqtkp zqep zqdp zqtap zqodp zqup zqFp zqNp zqn1 zqn2 zqn3 zqhm zqhf; (try simp only [AllNe, and_true] at zqn1 zqn2 zqn3); (have hl0 := zqhf _ (.head _)); (dsimp only at hl0); clear zqhf)))
  k_with "call ref" => ((k_here; (with_reducible show wpAny _ _ (call (Value.ref 118) [_, _]) _ _ _); k_dflt (refine' err_use (fun Q E hQ => conNO _ _ _ _ _ (by first | exact rep_str (by decide +kernel) | exact Rep.mono (by assumption) (Fr.keep (by k_asm)) | exact rep_two (by k_asm) (by k_mem) (by assumption) (by assumption) (Fr.keep (by k_asm))) _ (by first | exact rep_str (by decide +kernel) | exact Rep.mono (by assumption) (Fr.keep (by k_asm)) | exact rep_two (by k_asm) (by k_mem) (by assumption) (by assumption) (Fr.keep (by k_asm))) Q E (by k_in) (Top.keeps (by assumption) (Fr.keep (by k_asm))) hQ) ?k1 ?k2 ?k3 ?k4 ?k5 ?k6 ?_; (case k1 => k_asm); (case k2 => k_asm); (case k3 => exact rfl); (case k4 => exact rfl); (case k5 => exact Nat.le_of_ble_eq_true rfl); (case k6 => exact Nat.le_of_ble_eq_true rfl); k_whole; intro zqhp zqtkp zqep zqdp zqtap zqodp zqup zqFp zqNp zqn1 zqn2 zqn3 zqhm zqhf; (try simp only [AllNe, and_true] at zqn1 zqn2 zqn3); (have hl0 := zqhf _ (.head _)); (have hl1 := zqhf _ (.tail _ (.head _))); (dsimp only at hl0 hl1); clear zqhf)))
  k_with "call ref" => ((k_here; (with_reducible show wpAny _ _ (call (Value.ref 156) [_, _, _, _]) _ _ _); k_dflt (refine' err_use (fun Q E hQ => conIM _ _ _ _ _ _ _ (by first | exact rep_str (by decide +kernel) | exact Rep.mono (by assumption) (Fr.keep (by k_asm)) | exact rep_two (by k_asm) (by k_mem) (by assumption) (by assumption) (Fr.keep (by k_asm))) _ (by first | exact rep_str (by decide +kernel) | exact Rep.mono (by assumption) (Fr.keep (by k_asm)) | exact rep_two (by k_asm) (by k_mem) (by assumption) (by assumption) (Fr.keep (by k_asm))) _ (by first | exact rep_str (by decide +kernel) | exact Rep.mono (by assumption) (Fr.keep (by k_asm)) | exact rep_two (by k_asm) (by k_mem) (by assumption) (by assumption) (Fr.keep (by k_asm))) _ (by first | exact rep_str (by decide +kernel) | exact Rep.mono (by assumption) (Fr.keep (by k_asm)) | exact rep_two (by k_asm) (by k_mem) (by assumption) (by assumption) (Fr.keep (by k_asm))) Q E (by k_in) (Top.keeps (by assumption) (Fr.keep (by k_asm))) hQ) ?k1 ?k2 ?k3 ?k4 ?k5 ?k6 ?_; (case k1 => k_asm); (case k2 => k_asm); (case k3 => exact rfl); (case k4 => exact rfl); (case k5 => exact Nat.le_of_ble_eq_true rfl); (case k6 => exact Nat.le_of_ble_eq_true rfl); k_whole; intro zqhp zqtkp zqep zqdp zqtap zqodp zqup zqFp zqNp zqn1 zqn2 zqn3 zqhm zqhf; (try simp only [AllNe, and_true] at zqn1 zqn2 zqn3); (have hl0 := zqhf _ (.head _)); (have hl1 := zqhf _ (.tail _ (.head _))); (have hl2 := zqhf _ (.tail _ (.tail _ (.head _)))); (dsimp only at hl0 hl1 hl2); clear zqhf)))
  k_with "call ref" => ((k_here; (with_reducible show wpAny _ _ (call (Value.ref 175) [_, _, _]) _ _ _); k_dflt (refine' err_use (fun Q E hQ => conID _ _ _ _ _ _ (by first | exact rep_str (by decide +kernel) | exact Rep.mono (by assumption) (Fr.keep (by k_asm)) | exact rep_two (by k_asm) (by k_mem) (by assumption) (by assumption) (Fr.keep (by k_asm))) _ (by first | exact rep_str (by decide +kernel) | exact Rep.mono (by assumption) (Fr.keep (by k_asm)) | exact rep_two (by k_asm) (by k_mem) (by assumption) (by assumption) (Fr.keep (by k_asm))) _ (by first | exact rep_str (by decide +kernel) | exact Rep.mono (by assumption) (Fr.keep (by k_asm)) | exact rep_two (by k_asm) (by k_mem) (by assumption) (by assumption) (Fr.keep (by k_asm))) Q E (by k_in) (Top.keeps (by assumption) (Fr.keep (by k_asm))) hQ) ?k1 ?k2 ?k3 ?k4 ?k5 ?k6 ?_; (case k1 => k_asm); (case k2 => k_asm); (case k3 => exact rfl); (case k4 => exact rfl); (case k5 => exact Nat.le_of_ble_eq_true rfl); (case k6 => exact Nat.le_of_ble_eq_true rfl); k_whole; intro zqhp zqtkp zqep zqdp zqtap zqodp zqup zqFp zqNp zqn1 zqn2 zqn3 zqhm zqhf; (try simp only [AllNe, and_true] at zqn1 zqn2 zqn3); (have hl0 := zqhf _ (.head _)); (have hl1 := zqhf _ (.tail _ (.head _))); (dsimp only at hl0 hl1); clear zqhf)))
  k_with "getAttr ref" => ((k_here; k_dflt (refine' gets_led6 (f := 36) ?k1 ?k2 ?k3 ?k4 ?k5 ?k6 ?k7 ?k8 ?k9 ?_; (case k1 => k_asm); (case k2 => k_asm); (case k3 => k_asm); (case k4 => k_mem); (case k5 => k_mem); (case k6 => kernel_rfl); (case k8 => assumption); (case k7 => kernel_rfl); (case k9 => exact rfl))))
  trivial
theorem bear0 : ∀ {p : Program} {loose : List Str} {mean : ExcName → Option Value} {mg mb : Str → Option Value} (w : World) (s : Shared) (e : Addr) (wl : Str) (tk0 : Tok) (RL : Rep PySem.Challenge.rw_dm0028_06.prog w s.heap (.ref e) wl) (RI : RepI PySem.Challenge.rw_dm0028_06.prog w s.heap (.ref e) wl) (hwl : wl.length ≤ 1000)
    (Q E : Value → Shared → Prop) (KX : (hz.heap_178 w.params).In s.heap) (T : Top p loose mean mg mb s.heap)
    (hQ : ∀ h' tk (l e2 : Addr) (hd tl : Str) (place : Nat) (t1 t2 t3 : Tok) (n : Nat) (new : List (Addr × Obj)), Grow s.heap h' → BearC s.heap h' e wl l e2 hd tl place t1 t2 t3 n new → Q (.ref l) { s with heap := h', toks := tk }),
    wpAny (model PySem.Challenge.rw_dm0028_06.prog w) (AD 500 1500) (call (.ref 191) [.int 0 tk0, .ref e]) Q E s := by
  w_top off
  k_fill
  intro p loose mean mg mb w s e wl tk0 RL RI hwl Q E KX T hQ
  obtain ⟨hh, g, dr, tk, os⟩ := s
  dsimp only at KX T RL RI hQ
  w_strict (
  refine wpAny_call ?_
  k_dflt (refine' enter_new (h₀ := hh) (binds := [("kind", .int 0 tk0), ("last", .ref e)]) (news := []) ?k1 ?k2 KX T.nolimit ?k9 ?k5 ?k6 ?k7 ?k8 ?kB ?c2 ?c3 ?c4 ?c5 ?_; (case k5 => k_is); (case k6 => k_is); (case k7 => exact Nat.le_of_ble_eq_true rfl); (case k8 => first | exact BindsTo.of_eq rfl | exact binds_K KX rfl (by k_is) rfl rfl rfl); (case c5 => decide); (case kB => exact locs rfl); (case c2 => exact rfl); (case c3 => exact rfl); (case c4 => exact rfl); (case k1 => exact fun _ _ e => e); (case k2 => exact Nat.le_refl _); (case k9 => exact List.forall_mem_nil _))
  intro L' h' tk' F' N' l1
  walk_at "mine texts"
  k_steps
  (with_reducible rename Fr _ _ _ _ => Fz)
  (with_reducible rename News _ _ _ _ => Nz)
  (with_reducible rename lookIn (Str.ofString "message") _ = _ => hmz)
  refine hQ _ _ _ _ _ _ 0 _ _ _ _ _ Fz.keep (bear_end (new := _) (C := 59) Nz (by k_mem) (by decide) (by k_mem) (by k_mem) (by k_mem) hmz ?_ (.inl rfl) (Nat.le_of_ble_eq_true rfl) (fun p hp => hp) ?_)
  · simp only [cps6, List.append_assoc]
    rw [show (Str.ofString "").cps.toList = ([] : List Nat) from rfl, List.append_nil]
    all_goals kernel_rfl
  · exact ⟨Nat.le_of_ble_eq_true (by kernel_rfl), Nat.le_of_ble_eq_true (by kernel_rfl)⟩)
end
section
theorem lay5 : True := by
  k_with_none
  k_with "ne" => (with_reducible (first | exact ns1 | exact ns2 | exact qlt (by assumption) | exact qgt (by assumption) | exact qne (by assumption) | exact qen (by assumption) | exact rlt (by assumption) | exact rgt (by assumption) | exact rne (by assumption) | exact ren (by assumption) | exact qlt (And.right (by assumption)) | exact qgt (And.right (by assumption)) | exact qne (And.right (by assumption)) | exact qen (And.right (by assumption)) | exact rlt (And.right (by assumption)) | exact rgt (And.right (by assumption)) | exact rne (And.right (by assumption)) | exact ren (And.right (by assumption)) | exact qlt (And.right (And.right (by assumption))) | exact qgt (And.right (And.right (by assumption))) | exact qne (And.right (And.right (by assumption))) | exact qen (And.right (And.right (by assumption))) | exact rlt (And.right (And.right (by assumption))) | exact rgt (And.right (And.right (by assumption))) | exact rne (And.right (And.right (by assumption))) | exact ren (And.right (And.right (by assumption))) | exact qlt (And.right (And.right (And.right (by assumption)))) | exact qgt (And.right (And.right (And.right (by assumption)))) | exact qne (And.right (And.right (And.right (by assumption)))) | exact qen (And.right (And.right (And.right (by assumption)))) | exact rlt (And.right (And.right (And.right (by assumption)))) | exact rgt (And.right (And.right (And.right (by assumption)))) | exact rne (And.right (And.right (And.right (by assumption)))) | exact ren (And.right (And.right (And.right (by assumption)))) | exact qlt (And.right (And.right (And.right (And.right (by assumption))))) | exact qgt (And.right (And.right (And.right (And.right (by assumption))))) | exact qne (And.right (And.right (And.right (And.right (by assumption))))) | exact qen (And.right (And.right (And.right (And.right (by assumption))))) | exact rlt (And.right (And.right (And.right (And.right (by assumption))))) | exact rgt (And.right (And.right (And.right (And.right (by assumption))))) | exact rne (And.right (And.right (And.right (And.right (by assumption))))) | exact ren (And.right (And.right (And.right (And.right (by assumption))))) | exact qlt (And.right (And.right (And.right (And.right (And.right (by assumption)))))) | exact qgt (And.right (And.right (And.right (And.right (And.right (by assumption)))))) | exact qne (And.right (And.right (And.right (And.right (And.right (by assumption)))))) | exact qen (And.right (And.right (And.right (And.right (And.right (by assumption)))))) | exact rlt (And.right (And.right (And.right (And.right (And.right (by assumption)))))) | exact rgt (And.right (And.right (And.right (And.right (And.right (by assumption)))))) | exact rne (And.right (And.right (And.right (And.right (And.right (by assumption)))))) | exact ren (And.right (And.right (And.right (And.right (And.right (by assumption)))))) | exact qlt (And.right (And.right (And.right (And.right (And.right (And.right (by assumption))))))) | exact qgt (And.right (And.right (And.right (And.right (And.right (And.right (by assumption))))))) | exact qne (And.right (And.right (And.right (And.right (And.right (And.right (by assumption))))))) | exact qen (And.right (And.right (And.right (And.right (And.right (And.right (by assumption))))))) | exact rlt (And.right (And.right (And.right (And.right (And.right (And.right (by assumption))))))) | exact rgt (And.right (And.right (And.right (And.right (And.right (And.right (by assumption))))))) | exact rne (And.right (And.right (And.right (And.right (And.right (And.right (by assumption))))))) | exact ren (And.right (And.right (And.right (And.right (And.right (And.right (by assumption))))))) | exact qlt (And.right (And.right (And.right (And.right (And.right (And.right (And.right (by assumption)))))))) | exact qgt (And.right (And.right (And.right (And.right (And.right (And.right (And.right (by assumption)))))))) | exact qne (And.right (And.right (And.right (And.right (And.right (And.right (And.right (by assumption)))))))) | exact qen (And.right (And.right (And.right (And.right (And.right (And.right (And.right (by assumption)))))))) | exact rlt (And.right (And.right (And.right (And.right (And.right (And.right (And.right (by assumption)))))))) | exact rgt (And.right (And.right (And.right (And.right (And.right (And.right (And.right (by assumption)))))))) | exact rne (And.right (And.right (And.right (And.right (And.right (And.right (And.right (by assumption)))))))) | exact ren (And.right (And.right (And.right (And.right (And.right (And.right (And.right (by assumption)))))))) | exact qlt (And.right (And.right (And.right (And.right (And.right (And.right (And.right (And.right (by assumption))))))))) | exact qgt (And.right (And.right (And.right (And.right (And.right (And.right (And.right (And.right (by assumption))))))))) | exact qne (And.right (And.right (And.right (And.right (And.right (And.right (And.right (And.right (by assumption))))))))) | exact qen (And.right (And.right (And.right (And.right (And.right (And.right (And.right (And.right (by assumption))))))))) | exact rlt (And.right (And.right (And.right (And.right (And.right (And.right (And.right (And.right (by assumption))))))))) | exact rgt (And.right (And.right (And.right (And.right (And.right (And.right (And.right (And.right (by assumption))))))))) | exact rne (And.right (And.right (And.right (And.right (And.right (And.right (And.right (And.right (by assumption))))))))) | exact ren (And.right (And.right (And.right (And.right (And.right (And.right (And.right (And.right (by assumption))))))))) | exact qlt (And.right (And.right (And.right (And.right (And.right (And.right (And.right (And.right (And.right (by assumption)))))))))) | exact qgt (And.right (And.right (And.right (And.right (And.right (And.right (And.right (And.right (And.right (by assumption)))))))))) | exact qne (And.right (And.right (And.right (And.right (And.right (And.right (And.right (And.right (And.right (by assumption)))))))))) | exact qen (And.right (And.right (And.right (And.right (And.right (And.right (And.right (And.right (And.right (by assumption)))))))))) | exact rlt (And.right (And.right (And.right (And.right (And.right (And.right (And.right (And.right (And.right (by assumption)))))))))) | exact rgt (And.right (And.right (And.right (And.right (And.right (And.right (And.right (And.right (And.right (by assumption)))))))))) | exact rne (And.right (And.right (And.right (And.right (And.right (And.right (And.right (And.right (And.right (by assumption)))))))))) | exact ren (And.right (And.right (And.right (And.right (And.right (And.right (And.right (And.right (And.right (by assumption)))))))))) | exact qlt (And.right (And.right (And.right (And.right (And.right (And.right (And.right (And.right (And.right (And.right (by assumption))))))))))) | exact qgt (And.right (And.right (And.right (And.right (And.right (And.right (And.right (And.right (And.right (And.right (by assumption))))))))))) | exact qne (And.right (And.right (And.right (And.right (And.right (And.right (And.right (And.right (And.right (And.right (by assumption))))))))))) | exact qen (And.right (And.right (And.right (And.right (And.right (And.right (And.right (And.right (And.right (And.right (by assumption))))))))))) | exact rlt (And.right (And.right (And.right (And.right (And.right (And.right (And.right (And.right (And.right (And.right (by assumption))))))))))) | exact rgt (And.right (And.right (And.right (And.right (And.right (And.right (And.right (And.right (And.right (And.right (by assumption))))))))))) | exact rne (And.right (And.right (And.right (And.right (And.right (And.right (And.right (And.right (And.right (And.right (by assumption))))))))))) | exact ren (And.right (And.right (And.right (And.right (And.right (And.right (And.right (And.right (And.right (And.right (by assumption))))))))))) | exact qlt (And.right (And.right (And.right (And.right (And.right (And.right (And.right (And.right (And.right (And.right (And.right (by assumption)))))))))))) | exact qgt (And.right (And.right (And.right (And.right (And.right (And.right (And.right (And.right (And.right (And.right (And.right (by assumption)))))))))))) | exact qne (And.right (And.right (And.right (And.right (And.right (And.right (And.right (And.right (And.right (And.right (And.right (by assumption)))))))))))) | exact qen (And.right (And.right (And.right (And.right (And.right (And.right (And.right (And.right (And.right (And.right (And.right (by assumption)))))))))))) | exact rlt (And.right (And.right (And.right (And.right (And.right (And.right (And.right (And.right (And.right (And.right (And.right (by assumption)))))))))))) | exact rgt (And.right (And.right (And.right (And.right (And.right (And.right (And.right (And.right (And.right (And.right (And.right (by assumption)))))))))))) | exact rne (And.right (And.right (And.right (And.right (And.right (And.right (And.right (And.right (And.right (And.right (And.right (by assumption)))))))))))) | exact ren (And.right (And.right (And.right (And.right (And.right (And.right (And.right (And.right (And.right (And.right (And.right (by assumption)))))))))))) | exact qlt (And.right (And.right (And.right (And.right (And.right (And.right (And.right (And.right (And.right (And.right (And.right (And.right (by assumption))))))))))))) | exact qgt (And.right (And.right (And.right (And.right (And.right (And.right (And.right (And.right (And.right (And.right (And.right (And.right (by assumption))))))))))))) | exact qne (And.right (And.right (And.right (And.right (And.right (And.right (And.right (And.right (And.right (And.right (And.right (And.right (by assumption))))))))))))) | exact qen (And.right (And.right (And.right (And.right (And.right (And.right (And.right (And.right (And.right (And.right (And.right (And.right (by assumption))))))))))))) | exact rlt (And.right (And.right (And.right (And.right (And.right (And.right (And.right (And.right (And.right (And.right (And.right (And.right (by assumption))))))))))))) | exact rgt (And.right (And.right (And.right (And.right (And.right (And.right (And.right (And.right (And.right (And.right (And.right (And.right (by assumption))))))))))))) | exact rne (And.right (And.right (And.right (And.right (And.right (And.right (And.right (And.right (And.right (And.right (And.right (And.right (by assumption))))))))))))) | exact ren (And.right (And.right (And.right (And.right (And.right (And.right (And.right (And.right (And.right (And.right (And.right (And.right (by assumption))))))))))))) | exact qlt (And.right (And.right (And.right (And.right (And.right (And.right (And.right (And.right (And.right (And.right (And.right (And.right (And.right (by assumption)))))))))))))) | exact qgt (And.right (And.right (And.right (And.right (And.right (And.right (And.right (And.right (And.right (And.right (And.right (And.right (And.right (by assumption)))))))))))))) | exact qne (And.right (And.right (And.right (And.right (And.right (And.right (And.right (And.right (And.right (And.right (And.right (And.right (And.right (by assumption)))))))))))))) | exact qen (And.right (And.right (And.right (And.right (And.right (And.right (And.right (And.right (And.right (And.right (And.right (And.right (And.right (by assumption)))))))))))))) | exact rlt (And.right (And.right (And.right (And.right (And.right (And.right (And.right (And.right (And.right (And.right (And.right (And.right (And.right (by assumption)))))))))))))) | exact rgt (And.right (And.right (And.right (And.right (And.right (And.right (And.right (And.right (And.right (And.right (And.right (And.right (And.right (by assumption)))))))))))))) | exact rne (And.right (And.right (And.right (And.right (And.right (And.right (And.right (And.right (And.right (And.right (And.right (And.right (And.right (by assumption)))))))))))))) | exact ren (And.right (And.right (And.right (And.right (And.right (And.right (And.right (And.right (And.right (And.right (And.right (And.right (And.right (by assumption)))))))))))))) | exact qlt (And.right (And.right (And.right (And.right (And.right (And.right (And.right (And.right (And.right (And.right (And.right (And.right (And.right (And.right (by assumption))))))))))))))) | exact qgt (And.right (And.right (And.right (And.right (And.right (And.right (And.right (And.right (And.right (And.right (And.right (And.right (And.right (And.right (by assumption))))))))))))))) | exact qne (And.right (And.right (And.right (And.right (And.right (And.right (And.right (And.right (And.right (And.right (And.right (And.right (And.right (And.right (by assumption))))))))))))))) | exact qen (And.right (And.right (And.right (And.right (And.right (And.right (And.right (And.right (And.right (And.right (And.right (And.right (And.right (And.right (by assumption))))))))))))))) | exact rlt (And.right (And.right (And.right (And.right (And.right (And.right (And.right (And.right (And.right (And.right (And.right (And.right (And.right (And.right (by assumption))))))))))))))) | exact rgt (And.right (And.right (And.right (And.right (And.right (And.right (And.right (And.right (And.right (And.right (And.right (And.right (And.right (And.right (by assumption))))))))))))))) | exact rne (And.right (And.right (And.right (And.right (And.right (And.right (And.right (And.right (And.right (And.right (And.right (And.right (And.right (And.right (by assumption))))))))))))))) | exact ren (And.right (And.right (And.right (And.right (And.right (And.right (And.right (And.right (And.right (And.right (And.right (And.right (And.right (And.right (by assumption))))))))))))))) | exact qlt (And.right (And.right (And.right (And.right (And.right (And.right (And.right (And.right (And.right (And.right (And.right (And.right (And.right (And.right (And.right (by assumption)))))))))))))))) | exact qgt (And.right (And.right (And.right (And.right (And.right (And.right (And.right (And.right (And.right (And.right (And.right (And.right (And.right (And.right (And.right (by assumption)))))))))))))))) | exact qne (And.right (And.right (And.right (And.right (And.right (And.right (And.right (And.right (And.right (And.right (And.right (And.right (And.right (And.right (And.right (by assumption)))))))))))))))) | exact qen (And.right (And.right (And.right (And.right (And.right (And.right (And.right (And.right (And.right (And.right (And.right (And.right (And.right (And.right (And.right (by assumption)))))))))))))))) | exact rlt (And.right (And.right (And.right (And.right (And.right (And.right (And.right (And.right (And.right (And.right (And.right (And.right (And.right (And.right (And.right (by assumption)))))))))))))))) | exact rgt (And.right (And.right (And.right (And.right (And.right (And.right (And.right (And.right (And.right (And.right (And.right (And.right (And.right (And.right (And.right (by assumption)))))))))))))))) | exact rne (And.right (And.right (And.right (And.right (And.right (And.right (And.right (And.right (And.right (And.right (And.right (And.right (And.right (And.right (And.right (by assumption)))))))))))))))) | exact ren (And.right (And.right (And.right (And.right (And.right (And.right (And.right (And.right (And.right (And.right (And.right (And.right (And.right (And.right (And.right (by assumption))))))))))))))))))
  trivial
theorem lay6 : True := by
  k_with "mine texts" => ((try dsimp only [← sx0, ← sx1, ← sx2, ← sx3, ← sx4, ← sx5, ← sx6, ← sx7, ← sx8, ← sx9, ← sx10, ← sx11, ← sx12, ← sx13, ← sx14, ← sx15, ← sx16, ← sx17, ← sx18, ← sx19, ← sx20, ← sx21, ← sx22, ← sx23, ← sx24, ← sx25, ← sx26, ← sx27, ← sx28, ← sx29, ← sx30, ← sx31, ← sx32, ← sx33, ← sx34, ← sx35, ← sx36, ← sx37, ← sx38, ← sx39, ← sx40, ← sx41, ← sx42, ← sx43, ← sx44, ← sx45, ← sx46, ← sx47, ← sx48, ← sx49, ← sx50, ← sx51, ← sx52, ← sx53, ← sx54, ← sx55, ← sx56, ← sx57, ← sx58, ← sx59, ← sx60, ← sx61, ← sx62, ← sx63, ← sx64, ← sx65, ← sx66, ← sx67, ← sx68, ← sx69, ← sx70, ← sx71, ← sx72, ← sx73, ← sx74, ← sx75, ← sx76, ← sx77, ← sx78, ← sx79, ← sx80, ← sx81, ← sx82, ← sx83, ← sx84, ← sx85, ← sx86, ← sx87, ← sx88, ← sx89, ← sx90, ← sx91, ← sx92, ← sx93, ← sx94, ← sx95, ← sx96, ← sx97, ← sx98, ← sx99, ← sx100, ← sx101, ← sx102, ← sx103, ← sx104, ← sx105, ← sx106, ← sx107, ← sx108, ← sx109, ← sx110, ← sx111, ← sx112, ← sx113, ← sx114]))
  k_with "mine drop" => (first | (refine' Drop.head ?a; (case a => k_all)) | (refine' Drop.tail ?a ?b; (case a => k_ne); (case b => walk_at "mine drop")))
  k_with "setAttr ref" => ((k_here; k_dflt (first | (refine' exc_set0 ?k1 ?k2 ?k3 ?k4 ?k5 ?k6 ?k7 ?k8 ?k9 ?_; (case k1 => k_asm); (case k2 => k_asm); (case k3 => k_asm); (case k4 => k_mem); (case k5 => k_is); (case k6 => kernel_rfl); (case k7 => k_is); (case k8 => k_is); (case k9 => intro zqd; k_upd); k_whole; intro zqdp zqhp zqFp zqNp zql1; (try k_lt zql1)) | (refine' exc_set_args ?k1 ?k2 ?k3 ?k4 ?k5 ?k6 ?k7 ?k8 ?k9 ?k10 ?_; (case k1 => k_asm); (case k2 => k_asm); (case k3 => k_asm); (case k4 => first | (refine' InstAt.of_exc ?N ?h1 ?h2; (case N => k_asm); (case h1 => k_mem); (case h2 => k_mem)) | (refine' InstAt.of_exc0 ?N ?h1; (case N => k_asm); (case h1 => k_mem))); (case k5 => exact isTup_of (by k_asm) (by k_mem)); (case k6 => k_is); (case k7 => kernel_rfl); (case k8 => k_is); (case k9 => k_is); (case k10 => k_upd); k_whole; intro zqhp zqFp zqNp) | (refine' exc_set ?k1 ?k2 ?k3 ?k4 ?k5 ?k6 ?k7 ?k8 ?k9 ?k10 ?k11 ?k12 ?_; (case k1 => k_asm); (case k2 => k_asm); (case k3 => k_asm); (case k4 => first | (refine' InstAt.of_exc ?N ?h1 ?h2; (case N => k_asm); (case h1 => k_mem); (case h2 => k_mem)) | (refine' InstAt.of_exc0 ?N ?h1; (case N => k_asm); (case h1 => k_mem))); (case k5 => k_is); (case k6 => kernel_rfl); (case k7 => k_is); (case k8 => k_is); (case k9 => k_get); (case k10 => k_put); (case k11 => k_upd); (case k12 => exact Nat.le_of_ble_eq_true rfl); k_whole; intro zqhp zqFp zqNp))))
  k_with "call builtin:Exception.__init__" => ((k_here; k_dflt (refine' exc_init_call ?k1 ?k2 ?k3 ?k4 ?k5 ?k6 ?_; (case k1 => k_asm); (case k2 => k_asm); (case k3 => k_asm); (case k4 => first | (refine' InstAt.of_exc ?N ?h1 ?h2; (case N => k_asm); (case h1 => k_mem); (case h2 => k_mem)) | (refine' InstAt.of_exc0 ?N ?h1; (case N => k_asm); (case h1 => k_mem))); (case k5 => k_is); (case k6 => intro zqt; k_upd); k_whole; intro zqtp zqhp zqFp zqNp zql1; (try k_lt zql1))))
  k_with "call builtin:repr" => ((k_here; k_dflt (refine' repr_use ?k1 ?k2 ?k3 ?k4 ?k5 ?k6 ?k7 ?_; (case k1 => assumption); (case k2 => k_asm); (case k3 => k_asm); (case k4 => exact rfl); (case k5 => exact rfl); (case k6 => exact Nat.le_of_ble_eq_true rfl); (case k7 => exact Nat.le_of_ble_eq_true rfl); k_whole; intro zqhp zqup zqtkp zqFp zqNp)))
  k_with "BackIn" => ((k_dflt (refine' back_ ?k1 ?k2 ?k3 ?_; (case k1 => k_asm); (case k2 => k_asm); (case k3 => walk_at "mine drop"); k_whole; intro zqFp zqNp; (try dsimp only))))
  k_with "call ref" => ((k_here; k_dflt (refine wpAny_call ?_; refine' enter_in ?k1 ?k2 ?k3 ?k4 ?k5 ?k6 ?k7 ?k8 ?kB ?c2 ?c3 ?c4 ?c5 ?_; (case k1 => k_asm); (case k2 => k_asm); (case k3 => k_asm); (case k4 => exact Top.nolimit (by assumption)); (case k5 => k_is); (case k6 => k_is); (case k7 => exact Nat.le_of_ble_eq_true rfl); (case k8 => first | ((with_reducible show BindsTo _ _ ⟨[_], []⟩ _); first | exact BindsTo.of_eq (binds := [(_, _)]) rfl | exact binds_K (binds := [(_, _)]) (by k_in) rfl (by k_is) rfl rfl rfl) | ((with_reducible show BindsTo _ _ ⟨[_, _], []⟩ _); first | exact BindsTo.of_eq (binds := [(_, _), (_, _)]) rfl | exact binds_K (binds := [(_, _), (_, _)]) (by k_in) rfl (by k_is) rfl rfl rfl) | ((with_reducible show BindsTo _ _ ⟨[_, _, _], []⟩ _); first | exact BindsTo.of_eq (binds := [(_, _), (_, _), (_, _)]) rfl | exact binds_K (binds := [(_, _), (_, _), (_, _)]) (by k_in) rfl (by k_is) rfl rfl rfl) | ((with_reducible show BindsTo _ _ ⟨[_, _, _, _], []⟩ _); first | exact BindsTo.of_eq (binds := [(_, _), (_, _), (_, _), (_, _)]) rfl | exact binds_K (binds := [(_, _), (_, _), (_, _), (_, _)]) (by k_in) rfl (by k_is) rfl rfl rfl) | ((with_reducible show BindsTo _ _ ⟨[_, _, _, _, _], []⟩ _); first | exact BindsTo.of_eq (binds := [(_, _), (_, _), (_, _), (_, _), (_, _)]) rfl | exact binds_K (binds := [(_, _), (_, _), (_, _), (_, _), (_, _)]) (by k_in) rfl (by k_is) rfl rfl rfl)); (case c5 => decide); (case kB => exact locs rfl); (case c2 => exact rfl); (case c3 => exact rfl); (case c4 => exact rfl); k_whole; intro zqoLp zqLp zqhp zqtkp zqFp zqNp zql1 zqn1; (try k_lt zql1); (try (replace zqn1 := allNe_of zqn1; simp only [AllNe, and_true] at zqn1)); (try dsimp only); walk_at "mine texts")))
  k_with "call builtin:str.join" => ((k_here; (with_reducible show wpAny _ _ (call (Value.builtin "str.join") [Value.str _ _, Value.ref _]) _ _ _); k_dflt (refine join_listC (by is_list) (by repeat constructor) (by decide) (by (simp only [List.map_cons, List.map_nil, List.sum_cons, List.sum_nil, List.length_cons, List.length_nil]; omega)) ?_); intro zqtp zqkp))
  k_with "getMethod type:Exception" => ((k_here; refine' method_type ?F ?X ?m (by decide +kernel) ?e ?h ?_; (case F => k_asm); (case X => k_asm); (case m => exact meta_Exception); (case e => k_dflt k_is); (case h => k_handed)))
  k_with "compareOp IsNot" => ((k_here; k_dflt (refine isNot_none (by assumption) ?_)))
  k_with "call builtin:str.format" => ((k_here; k_dflt (refine' line_use ?k1 ?k2 ?k3 ?k4 ?k5 ?k6 ?k7 ?_; (case k1 => assumption); (case k2 => k_asm); (case k3 => k_asm); (case k4 => exact rfl); (case k5 => exact rfl); (case k6 => exact Nat.le_of_ble_eq_true rfl); (case k7 => exact Nat.le_of_ble_eq_true rfl); k_whole; intro zqhp zqup zqtkp zqFp zqNp)))
  k_with "call builtin:str.format" => ((k_here; (with_reducible show wpAny _ _ (call (Value.builtin "str.format") [Value.str _ _, _, _, _, _]) _ _ _); k_dflt (refine' fmt_use ?k1 ?k2 ?k3 ?k4 ?k5 ?_; (case k1 => k_asm); (case k2 => k_asm); (case k3 => exact ⟨rfl, rfl, Nat.le_of_ble_eq_true rfl, Nat.le_of_ble_eq_true rfl⟩); (case k4 => exact args_5 _ _ _ _ _); (case k5 => walk_at "mine fmt")); k_whole; intro zqhp zqup zqtkp zqFp zqNp))
  k_with "pyReprObj" => ((k_here; k_dflt (refine' reprObj_use ?k1 ?k2 ?k3 ?k4 ?k5 ?k6 ?k7 ?_; (case k1 => assumption); (case k2 => k_asm); (case k3 => k_asm); (case k4 => exact rfl); (case k5 => exact rfl); (case k6 => exact Nat.le_of_ble_eq_true rfl); (case k7 => exact Nat.le_of_ble_eq_true rfl); k_whole; intro zqhp zqup zqtkp zqFp zqNp)))
  k_with "call ref" => ((k_here; (with_reducible show wpAny _ _ (call (Value.ref 59) [_]) _ _ _); k_dflt (refine' err_use (fun Q E hQ => conNS _ _ _ _ (by first | exact rep_str (by decide +kernel) | exact Rep.mono (by assumption) (Fr.keep (by k_asm)) | exact rep_two (by k_asm) (by k_mem) (by assumption) (by assumption) (Fr.keep (by k_asm))) Q E (by k_in) (Top.keeps (by assumption) (Fr.keep (by k_asm))) hQ) ?k1 ?k2 ?k3 ?k4 ?k5 ?k6 ?_; (case k1 => k_asm); (case k2 => k_asm); (case k3 => exact rfl); (case k4 => exact rfl); (case k5 => exact Nat.le_of_ble_eq_true rfl); (case k6 => exact Nat.le_of_ble_eq_true rfl); k_whole; intro zqhp zqtkp zqep zqdp zqtap zqodp zqup zqFp zqNp zqn1 zqn2 zqn3 zqhm zqhf; (try simp only [AllNe, and_true] at zqn1 zqn2 zqn3); (have hl0 := zqhf _ (.head _)); (dsimp only at hl0); clear zqhf)))
  k_with "call ref" => ((k_here; (with_reducible show wpAny _ _ (call (Value.ref 118) [_, _]) _ _ _); k_dflt (refine' err_use (fun Q E hQ => conNO _ _ _ _ _ (by first | exact rep_str (by decide +kernel) | exact Rep.mono (by assumption) (Fr.keep (by k_asm)) | exact rep_two (by k_asm) (by k_mem) (by assumption) (by assumption) (Fr.keep (by k_asm))) _ (by first | exact rep_str (by decide +kernel) | exact Rep.mono (by assumption) (Fr.keep (by k_asm)) | exact rep_two (by k_asm) (by k_mem) (by assumption) (by assumption) (Fr.keep (by k_asm))) Q E (by k_in) (Top.keeps (by assumption) (Fr.keep (by k_asm))) hQ) ?k1 ?k2 ?k3 ?k4 ?k5 ?k6 ?_; (case k1 => k_asm); (case k2 => k_asm); (case k3 => exact rfl); (case k4 => exact rfl); (case k5 => exact Nat.le_of_ble_eq_true rfl); (case k6 => exact Nat.le_of_ble_eq_true rfl); k_whole; intro zqhp zqtkp zqep zqdp zqtap zqodp zqup zqFp zqNp zqn1 zqn2 zqn3 zqhm zqhf; (try simp only [AllNe, and_true] at zqn1 zqn2 zqn3); (have hl0 := zqhf _ (.head _)); (have hl1 := zqhf _ (.tail _ (.head _))); (dsimp only at hl0 hl1); clear zqhf)))
  k_with "call ref" => ((k_here; (with_reducible show wpAny _ _ (call (Value.ref 156) [_, _, _, _]) _ _ _); k_dflt (refine' err_use (fun Q E hQ => conIM _ _ _ _ _ _ _ (by first | exact rep_str (by decide +kernel) | exact Rep.mono (by assumption) (Fr.keep (by k_asm)) | exact rep_two (by k_asm) (by k_mem) (by assumption) (by assumption) (Fr.keep (by k_asm))) _ (by first | exact rep_str (by decide +kernel) | exact Rep.mono (by assumption) (Fr.keep (by k_asm)) | exact rep_two (by k_asm) (by k_mem) (by assumption) (by assumption) (Fr.keep (by k_asm))) _ (by first | exact rep_str (by decide +kernel) | exact Rep.mono (by assumption) (Fr.keep (by k_asm)) | exact rep_two (by k_asm) (by k_mem) (by assumption) (by assumption) (Fr.keep (by k_asm))) _ (by first | exact rep_str (by decide +kernel) | exact Rep.mono (by assumption) (Fr.keep (by k_asm)) | exact rep_two (by k_asm) (by k_mem) (by assumption) (by assumption) (Fr.keep (by k_asm))) Q E (by k_in) (Top.keeps (by assumption) (Fr.keep (by k_asm))) hQ) ?k1 ?k2 ?k3 ?k4 ?k5 ?k6 ?_; (case k1 => k_asm); (case k2 => k_asm); (case k3 => exact rfl); (case k4 => exact rfl); (case k5 => exact Nat.le_of_ble_eq_true rfl); (case k6 => exact Nat.le_of_ble_eq_true rfl); k_whole; intro zqhp zqtkp zqep zqdp zqtap zqodp zqup zqFp zqNp zqn1 zqn2 zqn3 zqhm zqhf; (try simp only [AllNe, and_true] at zqn1 zqn2 zqn3); (have hl0 := zqhf _ (.head _)); (have hl1 := zqhf _ (.tail _ (.head _))); (have hl2 := zqhf _ (.tail _ (.tail _ (.head _)))); (dsimp only at hl0 hl1 hl2); clear zqhf)))
  k_with "call ref" => ((k_here; (with_reducible show wpAny _ _ (call (Value.ref 175) [_, _, _]) _ _ _); k_dflt (refine' err_use (fun Q E hQ => conID _ _ _ _ _ _ (by first | exact rep_str (by decide +kernel) | exact Rep.mono (by assumption) (Fr.keep (by k_asm)) | exact rep_two (by k_asm) (by k_mem) (by assumption) (by assumption) (Fr.keep (by k_asm))) _ (by first | exact rep_str (by decide +kernel) | exact Rep.mono (by assumption) (Fr.keep (by k_asm)) | exact rep_two (by k_asm) (by k_mem) (by assumption) (by assumption) (Fr.keep (by k_asm))) _ (by first | exact rep_str (by decide +kernel) | exact Rep.mono (by assumption) (Fr.keep (by k_asm)) | exact rep_two (by k_asm) (by k_mem) (by assumption) (by assumption) (Fr.keep (by k_asm))) Q E (by k_in) (Top.keeps (by assumption) (Fr.keep (by k_asm))) hQ) ?k1 ?k2 ?k3 ?k4 ?k5 ?k6 ?_; (case k1 => k_asm); (case k2 => k_asm); (case k3 => exact rfl); (case k4 => exact rfl); (case k5 => exact Nat.le_of_ble_eq_true rfl); (case k6 => exact Nat.le_of_ble_eq_true rfl); k_whole; intro zqhp zqtkp zqep zqdp zqtap zqodp zqup zqFp zqNp zqn1 zqn2 zqn3 zqhm zqhf; (try simp only [AllNe, and_true] at zqn1 zqn2 zqn3); (have hl0 := zqhf _ (.head _)); (have hl1 := zqhf _ (.tail _ (.head _))); (dsimp only at hl0 hl1); clear zqhf)))
  k_with "getAttr ref" => ((k_here; k_dflt (refine' gets_led6 (f := 36) ?k1 ?k2 ?k3 ?k4 ?k5 ?k6 ?k7 ?k8 ?k9 ?_; (case k1 => k_asm); (case k2 => k_asm); (case k3 => k_asm); (case k4 => k_mem); (case k5 => k_mem); (case k6 => kernel_rfl); (case k8 => assumption); (case k7 => kernel_rfl); (case k9 => exact rfl))))
  trivial
theorem bear1 : ∀ {p : Program} {loose : List Str} {mean : ExcName → Option Value} {mg mb : Str → Option Value} (w : World) (s : Shared) (e : Addr) (wl : Str) (tk0 : Tok) (RL : Rep PySem.Challenge.rw_dm0028_06.prog w s.heap (.ref e) wl) (RI : RepI PySem.Challenge.rw_dm0028_06.prog w s.heap (.ref e) wl) (hwl : wl.length ≤ 1000)
    (Q E : Value → Shared → Prop) (KX : (hz.heap_178 w.params).In s.heap) (T : Top p loose mean mg mb s.heap)
    (hQ : ∀ h' tk (l e2 : Addr) (hd tl : Str) (place : Nat) (t1 t2 t3 : Tok) (n : Nat) (new : List (Addr × Obj)), Grow s.heap h' → BearC s.heap h' e wl l e2 hd tl place t1 t2 t3 n new → Q (.ref l) { s with heap := h', toks := tk }),
    wpAny (model PySem.Challenge.rw_dm0028_06.prog w) (AD 500 1500) (call (.ref 191) [.int 1 tk0, .ref e]) Q E s := by
  w_top off
  k_fill
  intro p loose mean mg mb w s e wl tk0 RL RI hwl Q E KX T hQ
  obtain ⟨hh, g, dr, tk, os⟩ := s
  dsimp only at KX T RL RI hQ
  w_strict (
  refine wpAny_call ?_
  k_dflt (refine' enter_new (h₀ := hh) (binds := [("kind", .int 1 tk0), ("last", .ref e)]) (news := []) ?k1 ?k2 KX T.nolimit ?k9 ?k5 ?k6 ?k7 ?k8 ?kB ?c2 ?c3 ?c4 ?c5 ?_; (case k5 => k_is); (case k6 => k_is); (case k7 => exact Nat.le_of_ble_eq_true rfl); (case k8 => first | exact BindsTo.of_eq rfl | exact binds_K KX rfl (by k_is) rfl rfl rfl); (case c5 => decide); (case kB => exact locs rfl); (case c2 => exact rfl); (case c3 => exact rfl); (case c4 => exact rfl); (case k1 => exact fun _ _ e => e); (case k2 => exact Nat.le_refl _); (case k9 => exact List.forall_mem_nil _))
  intro L' h' tk' F' N' l1
  walk_at "mine texts"
  k_steps
  (with_reducible rename Fr _ _ _ _ => Fz)
  (with_reducible rename News _ _ _ _ => Nz)
  (with_reducible rename lookIn (Str.ofString "message") _ = _ => hmz)
  refine hQ _ _ _ _ _ _ 0 _ _ _ _ _ Fz.keep (bear_end (new := _) (C := 118) Nz (by k_mem) (by decide) (by k_mem) (by k_mem) (by k_mem) hmz ?_ (.inl rfl) (Nat.le_of_ble_eq_true rfl) (fun p hp => hp) ?_)
  · simp only [cps6, List.append_assoc]
    all_goals kernel_rfl
  · exact ⟨Nat.le_of_ble_eq_true (by kernel_rfl), Nat.le_of_ble_eq_true (by kernel_rfl)⟩)
theorem bear2 : ∀ {p : Program} {loose : List Str} {mean : ExcName → Option Value} {mg mb : Str → Option Value} (w : World) (s : Shared) (e : Addr) (wl : Str) (tk0 : Tok) (RL : Rep PySem.Challenge.rw_dm0028_06.prog w s.heap (.ref e) wl) (RI : RepI PySem.Challenge.rw_dm0028_06.prog w s.heap (.ref e) wl) (hwl : wl.length ≤ 1000)
    (Q E : Value → Shared → Prop) (KX : (hz.heap_178 w.params).In s.heap) (T : Top p loose mean mg mb s.heap)
    (hQ : ∀ h' tk (l e2 : Addr) (hd tl : Str) (place : Nat) (t1 t2 t3 : Tok) (n : Nat) (new : List (Addr × Obj)), Grow s.heap h' → BearC s.heap h' e wl l e2 hd tl place t1 t2 t3 n new → Q (.ref l) { s with heap := h', toks := tk }),
    wpAny (model PySem.Challenge.rw_dm0028_06.prog w) (AD 500 1500) (call (.ref 191) [.int 2 tk0, .ref e]) Q E s := by
  w_top off
  k_fill
  intro p loose mean mg mb w s e wl tk0 RL RI hwl Q E KX T hQ
  obtain ⟨hh, g, dr, tk, os⟩ := s
  dsimp only at KX T RL RI hQ
  w_strict (
  refine wpAny_call ?_
  k_dflt (refine' enter_new (h₀ := hh) (binds := [("kind", .int 2 tk0), ("last", .ref e)]) (news := []) ?k1 ?k2 KX T.nolimit ?k9 ?k5 ?k6 ?k7 ?k8 ?kB ?c2 ?c3 ?c4 ?c5 ?_; (case k5 => k_is); (case k6 => k_is); (case k7 => exact Nat.le_of_ble_eq_true rfl); (case k8 => first | exact BindsTo.of_eq rfl | exact binds_K KX rfl (by k_is) rfl rfl rfl); (case c5 => decide); (case kB => exact locs rfl); (case c2 => exact rfl); (case c3 => exact rfl); (case c4 => exact rfl); (case k1 => exact fun _ _ e => e); (case k2 => exact Nat.le_refl _); (case k9 => exact List.forall_mem_nil _))
  intro L' h' tk' F' N' l1
  walk_at "mine texts"
  k_steps
  (with_reducible rename Fr _ _ _ _ => Fz)
  (with_reducible rename News _ _ _ _ => Nz)
  (with_reducible rename lookIn (Str.ofString "message") _ = _ => hmz)
  refine hQ _ _ _ _ _ _ 1 _ _ _ _ _ Fz.keep (bear_end (new := _) (C := 118) Nz (by k_mem) (by decide) (by k_mem) (by k_mem) (by k_mem) hmz ?_ (.inl rfl) (Nat.le_of_ble_eq_true rfl) (fun p hp => hp) ?_)
  · simp only [cps6, List.append_assoc]
    rw [show (Str.ofString "").cps.toList = ([] : List Nat) from rfl, List.append_nil]
    all_goals kernel_rfl
  · exact ⟨Nat.le_of_ble_eq_true (by kernel_rfl), Nat.le_of_ble_eq_true (by kernel_rfl)⟩)
theorem bear3 : ∀ {p : Program} {loose : List Str} {mean : ExcName → Option Value} {mg mb : Str → Option Value} (w : World) (s : Shared) (e : Addr) (wl : Str) (tk0 : Tok) (RL : Rep PySem.Challenge.rw_dm0028_06.prog w s.heap (.ref e) wl) (RI : RepI PySem.Challenge.rw_dm0028_06.prog w s.heap (.ref e) wl) (hwl : wl.length ≤ 1000)
    (Q E : Value → Shared → Prop) (KX : (hz.heap_178 w.params).In s.heap) (T : Top p loose mean mg mb s.heap)
    (hQ : ∀ h' tk (l e2 : Addr) (hd tl : Str) (place : Nat) (t1 t2 t3 : Tok) (n : Nat) (new : List (Addr × Obj)), Grow s.heap h' → BearC s.heap h' e wl l e2 hd tl place t1 t2 t3 n new → Q (.ref l) { s with heap := h', toks := tk }),
    wpAny (model PySem.Challenge.rw_dm0028_06.prog w) (AD 500 1500) (call (.ref 191) [.int 3 tk0, .ref e]) Q E s := by
  w_top off
  k_fill
  intro p loose mean mg mb w s e wl tk0 RL RI hwl Q E KX T hQ
  obtain ⟨hh, g, dr, tk, os⟩ := s
  dsimp only at KX T RL RI hQ
  w_strict (
  refine wpAny_call ?_
  k_dflt (refine' enter_new (h₀ := hh) (binds := [("kind", .int 3 tk0), ("last", .ref e)]) (news := []) ?k1 ?k2 KX T.nolimit ?k9 ?k5 ?k6 ?k7 ?k8 ?kB ?c2 ?c3 ?c4 ?c5 ?_; (case k5 => k_is); (case k6 => k_is); (case k7 => exact Nat.le_of_ble_eq_true rfl); (case k8 => first | exact BindsTo.of_eq rfl | exact binds_K KX rfl (by k_is) rfl rfl rfl); (case c5 => decide); (case kB => exact locs rfl); (case c2 => exact rfl); (case c3 => exact rfl); (case c4 => exact rfl); (case k1 => exact fun _ _ e => e); (case k2 => exact Nat.le_refl _); (case k9 => exact List.forall_mem_nil _))
  intro L' h' tk' F' N' l1
  walk_at "mine texts"
  k_steps
  (with_reducible rename Fr _ _ _ _ => Fz)
  (with_reducible rename News _ _ _ _ => Nz)
  (with_reducible rename lookIn (Str.ofString "message") _ = _ => hmz)
  refine hQ _ _ _ _ _ _ 2 _ _ _ _ _ Fz.keep (bear_end (new := _) (C := 156) Nz (by k_mem) (by decide) (by k_mem) (by k_mem) (by k_mem) hmz ?_ (.inl rfl) (Nat.le_of_ble_eq_true rfl) (fun p hp => hp) ?_)
  · simp only [cps6, List.append_assoc]
    rw [show (Str.ofString "").cps.toList = ([] : List Nat) from rfl, List.append_nil]
    all_goals kernel_rfl
  · exact ⟨Nat.le_of_ble_eq_true (by kernel_rfl), Nat.le_of_ble_eq_true (by kernel_rfl)⟩)
end
section
theorem lay7 : True := by
  k_with_none
  k_with "ne" => (with_reducible (first | exact ns1 | exact ns2 | exact qlt (by assumption) | exact qgt (by assumption) | exact qne (by assumption) | exact qen (by assumption) | exact rlt (by assumption) | exact rgt (by assumption) | exact rne (by assumption) | exact ren (by assumption) | exact qlt (And.right (by assumption)) | exact qgt (And.right (by assumption)) | exact qne (And.right (by assumption)) | exact qen (And.right (by assumption)) | exact rlt (And.right (by assumption)) | exact rgt (And.right (by assumption)) | exact rne (And.right (by assumption)) | exact ren (And.right (by assumption)) | exact qlt (And.right (And.right (by assumption))) | exact qgt (And.right (And.right (by assumption))) | exact qne (And.right (And.right (by assumption))) | exact qen (And.right (And.right (by assumption))) | exact rlt (And.right (And.right (by assumption))) | exact rgt (And.right (And.right (by assumption))) | exact rne (And.right (And.right (by assumption))) | exact ren (And.right (And.right (by assumption))) | exact qlt (And.right (And.right (And.right (by assumption)))) | exact qgt (And.right (And.right (And.right (by assumption)))) | exact qne (And.right (And.right (And.right (by assumption)))) | exact qen (And.right (And.right (And.right (by assumption)))) | exact rlt (And.right (And.right (And.right (by assumption)))) | exact rgt (And.right (And.right (And.right (by assumption)))) | exact rne (And.right (And.right (And.right (by assumption)))) | exact ren (And.right (And.right (And.right (by assumption)))) | exact qlt (And.right (And.right (And.right (And.right (by assumption))))) | exact qgt (And.right (And.right (And.right (And.right (by assumption))))) | exact qne (And.right (And.right (And.right (And.right (by assumption))))) | exact qen (And.right (And.right (And.right (And.right (by assumption))))) | exact rlt (And.right (And.right (And.right (And.right (by assumption))))) | exact rgt (And.right (And.right (And.right (And.right (by assumption))))) | exact rne (And.right (And.right (And.right (And.right (by assumption))))) | exact ren (And.right (And.right (And.right (And.right (by assumption))))) | exact qlt (And.right (And.right (And.right (And.right (And.right (by assumption)))))) | exact qgt (And.right (And.right (And.right (And.right (And.right (by assumption)))))) | exact qne (And.right (And.right (And.right (And.right (And.right (by assumption)))))) | exact qen (And.right (And.right (And.right (And.right (And.right (by assumption)))))) | exact rlt (And.right (And.right (And.right (And.right (And.right (by assumption)))))) | exact rgt (And.right (And.right (And.right (And.right (And.right (by assumption)))))) | exact rne (And.right (And.right (And.right (And.right (And.right (by assumption)))))) | exact ren (And.right (And.right (And.right (And.right (And.right (by assumption)))))) | exact qlt (And.right (And.right (And.right (And.right (And.right (And.right (by assumption))))))) | exact qgt (And.right (And.right (And.right (And.right (And.right (And.right (by assumption))))))) | exact qne (And.right (And.right (And.right (And.right (And.right (And.right (by assumption))))))) | exact qen (And.right (And.right (And.right (And.right (And.right (And.right (by assumption))))))) | exact rlt (And.right (And.right (And.right (And.right (And.right (And.right (by assumption))))))) | exact rgt (And.right (And.right (And.right (And.right (And.right (And.right (by assumption))))))) | exact rne (And.right (And.right (And.right (And.right (And.right (And.right (by assumption))))))) | exact ren (And.right (And.right (And.right (And.right (And.right (And.right (by assumption))))))) | exact qlt (And.right (And.right (And.right (And.right (And.right (And.right (And.right (by assumption)))))))) | exact qgt (And.right (And.right (And.right (And.right (And.right (And.right (And.right (by assumption)))))))) | exact qne (And.right (And.right (And.right (And.right (And.right (And.right (And.right (by assumption)))))))) | exact qen (And.right (And.right (And.right (And.right (And.right (And.right (And.right (by assumption)))))))) | exact rlt (And.right (And.right (And.right (And.right (And.right (And.right (And.right (by assumption)))))))) | exact rgt (And.right (And.right (And.right (And.right (And.right (And.right (And.right (by assumption)))))))) | exact rne (And.right (And.right (And.right (And.right (And.right (And.right (And.right (by assumption)))))))) | exact ren (And.right (And.right (And.right (And.right (And.right (And.right (And.right (by assumption)))))))) | exact qlt (And.right (And.right (And.right (And.right (And.right (And.right (And.right (And.right (by assumption))))))))) | exact qgt (And.right (And.right (And.right (And.right (And.right (And.right (And.right (And.right (by assumption))))))))) | exact qne (And.right (And.right (And.right (And.right (And.right (And.right (And.right (And.right (by assumption))))))))) | exact qen (And.right (And.right (And.right (And.right (And.right (And.right (And.right (And.right (by assumption))))))))) | exact rlt (And.right (And.right (And.right (And.right (And.right (And.right (And.right (And.right (by assumption))))))))) | exact rgt (And.right (And.right (And.right (And.right (And.right (And.right (And.right (And.right (by assumption))))))))) | exact rne (And.right (And.right (And.right (And.right (And.right (And.right (And.right (And.right (by assumption))))))))) | exact ren (And.right (And.right (And.right (And.right (And.right (And.right (And.right (And.right (by assumption))))))))) | exact qlt (And.right (And.right (And.right (And.right (And.right (And.right (And.right (And.right (And.right (by assumption)))))))))) | exact qgt (And.right (And.right (And.right (And.right (And.right (And.right (And.right (And.right (And.right (by assumption)))))))))) | exact qne (And.right (And.right (And.right (And.right (And.right (And.right (And.right (And.right (And.right (by assumption)))))))))) | exact qen (And.right (And.right (And.right (And.right (And.right (And.right (And.right (And.right (And.right (by assumption)))))))))) | exact rlt (And.right (And.right (And.right (And.right (And.right (And.right (And.right (And.right (And.right (by assumption)))))))))) | exact rgt (And.right (And.right (And.right (And.right (And.right (And.right (And.right (And.right (And.right (by assumption)))))))))) | exact rne (And.right (And.right (And.right (And.right (And.right (And.right (And.right (And.right (And.right (by assumption)))))))))) | exact ren (And.right (And.right (And.right (And.right (And.right (And.right (And.right (And.right (And.right (by assumption)))))))))) | exact qlt (And.right (And.right (And.right (And.right (And.right (And.right (And.right (And.right (And.right (And.right (by assumption))))))))))) | exact qgt (And.right (And.right (And.right (And.right (And.right (And.right (And.right (And.right (And.right (And.right (by assumption))))))))))) | exact qne (And.right (And.right (And.right (And.right (And.right (And.right (And.right (And.right (And.right (And.right (by assumption))))))))))) | exact qen (And.right (And.right (And.right (And.right (And.right (And.right (And.right (And.right (And.right (And.right (by assumption))))))))))) | exact rlt (And.right (And.right (And.right (And.right (And.right (And.right (And.right (And.right (And.right (And.right (by assumption))))))))))) | exact rgt (And.right (And.right (And.right (And.right (And.right (And.right (And.right (And.right (And.right (And.right (by assumption))))))))))) | exact rne (And.right (And.right (And.right (And.right (And.right (And.right (And.right (And.right (And.right (And.right (by assumption))))))))))) | exact ren (And.right (And.right (And.right (And.right (And.right (And.right (And.right (And.right (And.right (And.right (by assumption))))))))))) | exact qlt (And.right (And.right (And.right (And.right (And.right (And.right (And.right (And.right (And.right (And.right (And.right (by assumption)))))))))))) | exact qgt (And.right (And.right (And.right (And.right (And.right (And.right (And.right (And.right (And.right (And.right (And.right (by assumption)))))))))))) | exact qne (And.right (And.right (And.right (And.right (And.right (And.right (And.right (And.right (And.right (And.right (And.right (by assumption)))))))))))) | exact qen (And.right (And.right (And.right (And.right (And.right (And.right (And.right (And.right (And.right (And.right (And.right (by assumption)))))))))))) | exact rlt (And.right (And.right (And.right (And.right (And.right (And.right (And.right (And.right (And.right (And.right (And.right (by assumption)))))))))))) | exact rgt (And.right (And.right (And.right (And.right (And.right (And.right (And.right (And.right (And.right (And.right (And.right (by assumption)))))))))))) | exact rne (And.right (And.right (And.right (And.right (And.right (And.right (And.right (And.right (And.right (And.right (And.right (by assumption)))))))))))) | exact ren (And.right (And.right (And.right (And.right (And.right (And.right (And.right (And.right (And.right (And.right (And.right (by assumption)))))))))))) | exact qlt (And.right (And.right (And.right (And.right (And.right (And.right (And.right (And.right (And.right (And.right (And.right (And.right (by assumption))))))))))))) | exact qgt (And.right (And.right (And.right (And.right (And.right (And.right (And.right (And.right (And.right (And.right (And.right (And.right (by assumption))))))))))))) | exact qne (And.right (And.right (And.right (And.right (And.right (And.right (And.right (And.right (And.right (And.right (And.right (And.right (by assumption))))))))))))) | exact qen (And.right (And.right (And.right (And.right (And.right (And.right (And.right (And.right (And.right (And.right (And.right (And.right (by assumption))))))))))))) | exact rlt (And.right (And.right (And.right (And.right (And.right (And.right (And.right (And.right (And.right (And.right (And.right (And.right (by assumption))))))))))))) | exact rgt (And.right (And.right (And.right (And.right (And.right (And.right (And.right (And.right (And.right (And.right (And.right (And.right (by assumption))))))))))))) | exact rne (And.right (And.right (And.right (And.right (And.right (And.right (And.right (And.right (And.right (And.right (And.right (And.right (by assumption))))))))))))) | exact ren (And.right (And.right (And.right (And.right (And.right (And.right (And.right (And.right (And.right (And.right (And.right (And.right (by assumption))))))))))))) | exact qlt (And.right (And.right (And.right (And.right (And.right (And.right (And.right (And.right (And.right (And.right (And.right (And.right (And.right (by assumption)))))))))))))) | exact qgt (And.right (And.right (And.right (And.right (And.right (And.right (And.right (And.right (And.right (And.right (And.right (And.right (And.right (by assumption)))))))))))))) | exact qne (And.right (And.right (And.right (And.right (And.right (And.right (And.right (And.right (And.right (And.right (And.right (And.right (And.right (by assumption)))))))))))))) | exact qen (And.right (And.right (And.right (And.right (And.right (And.right (And.right (And.right (And.right (And.right (And.right (And.right (And.right (by assumption)))))))))))))) | exact rlt (And.right (And.right (And.right (And.right (And.right (And.right (And.right (And.right (And.right (And.right (And.right (And.right (And.right (by assumption)))))))))))))) | exact rgt (And.right (And.right (And.right (And.right (And.right (And.right (And.right (And.right (And.right (And.right (And.right (And.right (And.right (by assumption)))))))))))))) | exact rne (And.right (And.right (And.right (And.right (And.right (And.right (And.right (And.right (And.right (And.right (And.right (And.right (And.right (by assumption)))))))))))))) | exact ren (And.right (And.right (And.right (And.right (And.right (And.right (And.right (And.right (And.right (And.right (And.right (And.right (And.right (by assumption)))))))))))))) | exact qlt (And.right (And.right (And.right (And.right (And.right (And.right (And.right (And.right (And.right (And.right (And.right (And.right (And.right (And.right (by assumption))))))))))))))) | exact qgt (And.right (And.right (And.right (And.right (And.right (And.right (And.right (And.right (And.right (And.right (And.right (And.right (And.right (And.right (by assumption))))))))))))))) | exact qne (And.right (And.right (And.right (And.right (And.right (And.right (And.right (And.right (And.right (And.right (And.right (And.right (And.right (And.right (by assumption))))))))))))))) | exact qen (And.right (And.right (And.right (And.right (And.right (And.right (And.right (And.right (And.right (And.right (And.right (And.right (And.right (And.right (by assumption))))))))))))))) | exact rlt (And.right (And.right (And.right (And.right (And.right (And.right (And.right (And.right (And.right (And.right (And.right (And.right (And.right (And.right (by assumption))))))))))))))) | exact rgt (And.right (And.right (And.right (And.right (And.right (And.right (And.right (And.right (And.right (And.right (And.right (And.right (And.right (And.right (by assumption))))))))))))))) | exact rne (And.right (And.right (And.right (And.right (And.right (And.right (And.right (And.right (And.right (And.right (And.right (And.right (And.right (And.right (by assumption))))))))))))))) | exact ren (And.right (And.right (And.right (And.right (And.right (And.right (And.right (And.right (And.right (And.right (And.right (And.right (And.right (And.right (by assumption))))))))))))))) | exact qlt (And.right (And.right (And.right (And.right (And.right (And.right (And.right (And.right (And.right (And.right (And.right (And.right (And.right (And.right (And.right (by assumption)))))))))))))))) | exact qgt (And.right (And.right (And.right (And.right (And.right (And.right (And.right (And.right (And.right (And.right (And.right (And.right (And.right (And.right (And.right (by assumption)))))))))))))))) | exact qne (And.right (And.right (And.right (And.right (And.right (And.right (And.right (And.right (And.right (And.right (And.right (And.right (And.right (And.right (And.right (by assumption)))))))))))))))) | exact qen (And.right (And.right (And.right (And.right (And.right (And.right (And.right (And.right (And.right (And.right (And.right (And.right (And.right (And.right (And.right (by assumption)))))))))))))))) | exact rlt (And.right (And.right (And.right (And.right (And.right (And.right (And.right (And.right (And.right (And.right (And.right (And.right (And.right (And.right (And.right (by assumption)))))))))))))))) | exact rgt (And.right (And.right (And.right (And.right (And.right (And.right (And.right (And.right (And.right (And.right (And.right (And.right (And.right (And.right (And.right (by assumption)))))))))))))))) | exact rne (And.right (And.right (And.right (And.right (And.right (And.right (And.right (And.right (And.right (And.right (And.right (And.right (And.right (And.right (And.right (by assumption)))))))))))))))) | exact ren (And.right (And.right (And.right (And.right (And.right (And.right (And.right (And.right (And.right (And.right (And.right (And.right (And.right (And.right (And.right (by assumption))))))))))))))))))
  trivial
theorem lay8 : True := by
  k_with "mine texts" => ((try dsimp only [← sx0, ← sx1, ← sx2, ← sx3, ← sx4, ← sx5, ← sx6, ← sx7, ← sx8, ← sx9, ← sx10, ← sx11, ← sx12, ← sx13, ← sx14, ← sx15, ← sx16, ← sx17, ← sx18, ← sx19, ← sx20, ← sx21, ← sx22, ← sx23, ← sx24, ← sx25, ← sx26, ← sx27, ← sx28, ← sx29, ← sx30, ← sx31, ← sx32, ← sx33, ← sx34, ← sx35, ← sx36, ← sx37, ← sx38, ← sx39, ← sx40, ← sx41, ← sx42, ← sx43, ← sx44, ← sx45, ← sx46, ← sx47, ← sx48, ← sx49, ← sx50, ← sx51, ← sx52, ← sx53, ← sx54, ← sx55, ← sx56, ← sx57, ← sx58, ← sx59, ← sx60, ← sx61, ← sx62, ← sx63, ← sx64, ← sx65, ← sx66, ← sx67, ← sx68, ← sx69, ← sx70, ← sx71, ← sx72, ← sx73, ← sx74, ← sx75, ← sx76, ← sx77, ← sx78, ← sx79, ← sx80, ← sx81, ← sx82, ← sx83, ← sx84, ← sx85, ← sx86, ← sx87, ← sx88, ← sx89, ← sx90, ← sx91, ← sx92, ← sx93, ← sx94, ← sx95, ← sx96, ← sx97, ← sx98, ← sx99, ← sx100, ← sx101, ← sx102, ← sx103, ← sx104, ← sx105, ← sx106, ← sx107, ← sx108, ← sx109, ← sx110, ← sx111, ← sx112, ← sx113, ← sx114]))
  k_with "mine drop" => (first | (refine' Drop.head ?a; (case a => k_all)) | (refine' Drop.tail ?a ?b; (case a => k_ne); (case b => walk_at "mine drop")))
  k_with "setAttr ref" => ((k_here; k_dflt (first | (refine' exc_set0 ?k1 ?k2 ?k3 ?k4 ?k5 ?k6 ?k7 ?k8 ?k9 ?_; (case k1 => k_asm); (case k2 => k_asm); (case k3 => k_asm); (case k4 => k_mem); (case k5 => k_is); (case k6 => kernel_rfl); (case k7 => k_is); (case k8 => k_is); (case k9 => intro zqd; k_upd); k_whole; intro zqdp zqhp zqFp zqNp zql1; (try k_lt zql1)) | (refine' exc_set_args ?k1 ?k2 ?k3 ?k4 ?k5 ?k6 ?k7 ?k8 ?k9 ?k10 ?_; (case k1 => k_asm); (case k2 => k_asm); (case k3 => k_asm); (case k4 => first | (refine' InstAt.of_exc ?N ?h1 ?h2; (case N => k_asm); (case h1 => k_mem); (case h2 => k_mem)) | (refine' InstAt.of_exc0 ?N ?h1; (case N => k_asm); (case h1 => k_mem))); (case k5 => exact isTup_of (by k_asm) (by k_mem)); (case k6 => k_is); (case k7 => kernel_rfl); (case k8 => k_is); (case k9 => k_is); (case k10 => k_upd); k_whole; intro zqhp zqFp zqNp) | (refine' exc_set ?k1 ?k2 ?k3 ?k4 ?k5 ?k6 ?k7 ?k8 ?k9 ?k10 ?k11 ?k12 ?_; (case k1 => k_asm); (case k2 => k_asm); (case k3 => k_asm); (case k4 => first | (refine' InstAt.of_exc ?N ?h1 ?h2; (case N => k_asm); (case h1 => k_mem); (case h2 => k_mem)) | (refine' InstAt.of_exc0 ?N ?h1; (case N => k_asm); (case h1 => k_mem))); (case k5 => k_is); (case k6 => kernel_rfl); (case k7 => k_is); (case k8 => k_is); (case k9 => k_get); (case k10 => k_put); (case k11 => k_upd); (case k12 => exact Nat.le_of_ble_eq_true rfl); k_whole; intro zqhp zqFp zqNp))))
  k_with "call builtin:Exception.__init__" => ((k_here; k_dflt (refine' exc_init_call ?k1 ?k2 ?k3 ?k4 ?k5 ?k6 ?_; (case k1 => k_asm); (case k2 => k_asm); (case k3 => k_asm); (case k4 => first | (refine' InstAt.of_exc ?N ?h1 ?h2; (case N => k_asm); (case h1 => k_mem); (case h2 => k_mem)) | (refine' InstAt.of_exc0 ?N ?h1; (case N => k_asm); (case h1 => k_mem))); (case k5 => k_is); (case k6 => intro zqt; k_upd); k_whole; intro zqtp zqhp zqFp zqNp zql1; (try k_lt zql1))))
  k_with "call builtin:repr" => ((k_here; k_dflt (refine' repr_use ?k1 ?k2 ?k3 ?k4 ?k5 ?k6 ?k7 ?_; (case k1 => assumption); (case k2 => k_asm); (case k3 => k_asm); (case k4 => exact rfl); (case k5 => exact rfl); (case k6 => exact Nat.le_of_ble_eq_true rfl); (case k7 => exact Nat.le_of_ble_eq_true rfl); k_whole; intro zqhp zqup zqtkp zqFp zqNp)))
  k_with "BackIn" => ((k_dflt (refine' back_ ?k1 ?k2 ?k3 ?_; (case k1 => k_asm); (case k2 => k_asm); (case k3 => walk_at "mine drop"); k_whole; intro zqFp zqNp; (try dsimp only))))
  k_with "call ref" => ((k_here; k_dflt (refine wpAny_call ?_; refine' enter_in ?k1 ?k2 ?k3 ?k4 ?k5 ?k6 ?k7 ?k8 ?kB ?c2 ?c3 ?c4 ?c5 ?_; (case k1 => k_asm); (case k2 => k_asm); (case k3 => k_asm); (case k4 => exact Top.nolimit (by assumption)); (case k5 => k_is); (case k6 => k_is); (case k7 => exact Nat.le_of_ble_eq_true rfl); (case k8 => first | ((with_reducible show BindsTo _ _ ⟨[_], []⟩ _); first | exact BindsTo.of_eq (binds := [(_, _)]) rfl | exact binds_K (binds := [(_, _)]) (by k_in) rfl (by k_is) rfl rfl rfl) | ((with_reducible show BindsTo _ _ ⟨[_, _], []⟩ _); first | exact BindsTo.of_eq (binds := [(_, _), (_, _)]) rfl | exact binds_K (binds := [(_, _), (_, _)]) (by k_in) rfl (by k_is) rfl rfl rfl) | ((with_reducible show BindsTo _ _ ⟨[_, _, _], []⟩ _); first | exact BindsTo.of_eq (binds := [(_, _), (_, _), (_, _)]) rfl | exact binds_K (binds := [(_, _), (_, _), (_, _)]) (by k_in) rfl (by k_is) rfl rfl rfl) | ((with_reducible show BindsTo _ _ ⟨[_, _, _, _], []⟩ _); first | exact BindsTo.of_eq (binds := [(_, _), (_, _), (_, _), (_, _)]) rfl | exact binds_K (binds := [(_, _), (_, _), (_, _), (_, _)]) (by k_in) rfl (by k_is) rfl rfl rfl) | ((with_reducible show BindsTo _ _ ⟨[_, _, _, _, _], []⟩ _); first | exact BindsTo.of_eq (binds := [(_, _), (_, _), (_, _), (_, _), (_, _)]) rfl | exact binds_K (binds := [(_, _), (_, _), (_, _), (_, _), (_, _)]) (by k_in) rfl (by k_is) rfl rfl rfl)); (case c5 => decide); (case kB => exact locs rfl); (case c2 => exact rfl); (case c3 => exact rfl); (case c4 => exact rfl); k_whole; intro zqoLp zqLp zqhp zqtkp zqFp zqNp zql1 zqn1; (try k_lt zql1); (try (replace zqn1 := allNe_of zqn1; simp only [AllNe, and_true] at zqn1)); (try dsimp only); walk_at "mine texts")))
  k_with "call builtin:str.join" => ((k_here; (with_reducible show wpAny _ _ (call (Value.builtin "str.join") [Value.str _ _, Value.ref _]) _ _ _); k_dflt (refine join_listC (by is_list) (by repeat constructor) (by decide) (by (simp only [List.map_cons, List.map_nil, List.sum_cons, List.sum_nil, List.length_cons, List.length_nil]; omega)) ?_); intro zqtp zqkp))
  k_with "getMethod type:Exception" => ((k_here; refine' method_type ?F ?X ?m (by decide +kernel) ?e ?h ?_; (case F => k_asm); (case X => k_asm); (case m => exact meta_Exception); (case e => k_dflt k_is); (case h => k_handed)))
  k_with "compareOp IsNot" => ((k_here; k_dflt (refine isNot_none (by assumption) ?_)))
  k_with "call builtin:str.format" => ((k_here; k_dflt (refine' line_use ?k1 ?k2 ?k3 ?k4 ?k5 ?k6 ?k7 ?_; (case k1 => assumption); (case k2 => k_asm); (case k3 => k_asm); (case k4 => exact rfl); (case k5 => exact rfl); (case k6 => exact Nat.le_of_ble_eq_true rfl); (case k7 => exact Nat.le_of_ble_eq_true rfl); k_whole; intro zqhp zqup zqtkp zqFp zqNp)))
  k_with "call builtin:str.format" => ((k_here; (with_reducible show wpAny _ _ (call (Value.builtin "str.format") [Value.str _ _, _, _, _, _]) _ _ _); k_dflt (refine' fmt_use ?k1 ?k2 ?k3 ?k4 ?k5 ?_; (case k1 => k_asm); (case k2 => k_asm); (case k3 => exact ⟨rfl, rfl, Nat.le_of_ble_eq_true rfl, Nat.le_of_ble_eq_true rfl⟩); (case k4 => exact args_5 _ _ _ _ _); (case k5 => walk_at "mine fmt")); k_whole; intro zqhp zqup zqtkp zqFp zqNp))
  k_with "pyReprObj" => ((k_here; k_dflt (refine' reprObj_use ?k1 ?k2 ?k3 ?k4 ?k5 ?k6 ?k7 ?_; (case k1 => assumption); (case k2 => k_asm); (case k3 => k_asm); (case k4 => exact rfl); (case k5 => exact rfl); (case k6 => exact Nat.le_of_ble_eq_true rfl); (case k7 => exact Nat.le_of_ble_eq_true rfl); k_whole; intro zqhp zqup zqtkp zqFp zqNp)))
  k_with "call ref" => ((k_here; (with_reducible show wpAny _ _ (call (Value.ref 59) [_]) _ _ _); k_dflt (refine' err_use (fun Q E hQ => conNS _ _ _ _ (by first | exact rep_str (by decide +kernel) | exact Rep.mono (by assumption) (Fr.keep (by k_asm)) | exact rep_two (by k_asm) (by k_mem) (by assumption) (by assumption) (Fr.keep (by k_asm))) Q E (by k_in) (Top.keeps (by assumption) (Fr.keep (by k_asm))) hQ) ?k1 ?k2 ?k3 ?k4 ?k5 ?k6 ?_; (case k1 => k_asm); (case k2 => k_asm); (case k3 => exact rfl); (case k4 => exact rfl); (case k5 => exact Nat.le_of_ble_eq_true rfl); (case k6 => exact Nat.le_of_ble_eq_true rfl); k_whole; intro zqhp zqtkp zqep zqdp zqtap zqodp zqup zqFp zqNp zqn1 zqn2 zqn3 zqhm zqhf; (try simp only [AllNe, and_true] at zqn1 zqn2 zqn3); (have hl0 := zqhf _ (.head _)); (dsimp only at hl0); clear zqhf)))
  k_with "call ref" => ((k_here; (with_reducible show wpAny _ _ (call (Value.ref 118) [_, _]) _ _ _); k_dflt (refine' err_use (fun Q E hQ => conNO _ _ _ _ _ (by first | exact rep_str (by decide +kernel) | exact Rep.mono (by assumption) (Fr.keep (by k_asm)) | exact rep_two (by k_asm) (by k_mem) (by assumption) (by assumption) (Fr.keep (by k_asm))) _ (by first | exact rep_str (by decide +kernel) | exact Rep.mono (by assumption) (Fr.keep (by k_asm)) | exact rep_two (by k_asm) (by k_mem) (by assumption) (by assumption) (Fr.keep (by k_asm))) Q E (by k_in) (Top.keeps (by assumption) (Fr.keep (by k_asm))) hQ) ?k1 ?k2 ?k3 ?k4 ?k5 ?k6 ?_; (case k1 => k_asm); (case k2 => k_asm); (case k3 => exact rfl); (case k4 => exact rfl); (case k5 => exact Nat.le_of_ble_eq_true rfl); (case k6 => exact Nat.le_of_ble_eq_true rfl); k_whole; intro zqhp zqtkp zqep zqdp zqtap zqodp zqup zqFp zqNp zqn1 zqn2 zqn3 zqhm zqhf; (try simp only [AllNe, and_true] at zqn1 zqn2 zqn3); (have hl0 := zqhf _ (.head _)); (have hl1 := zqhf _ (.tail _ (.head _))); (dsimp only at hl0 hl1); clear zqhf)))
  k_with "call ref" => ((k_here; (with_reducible show wpAny _ _ (call (Value.ref 156) [_, _, _, _]) _ _ _); k_dflt (refine' err_use (fun Q E hQ => conIM _ _ _ _ _ _ _ (by first | exact rep_str (by decide +kernel) | exact Rep.mono (by assumption) (Fr.keep (by k_asm)) | exact rep_two (by k_asm) (by k_mem) (by assumption) (by assumption) (Fr.keep (by k_asm))) _ (by first | exact rep_str (by decide +kernel) | exact Rep.mono (by assumption) (Fr.keep (by k_asm)) | exact rep_two (by k_asm) (by k_mem) (by assumption) (by assumption) (Fr.keep (by k_asm))) _ (by first | exact rep_str (by decide +kernel) | exact Rep.mono (by assumption) (Fr.keep (by k_asm)) | exact rep_two (by k_asm) (by k_mem) (by assumption) (by assumption) (Fr.keep (by k_asm))) _ (by first | exact rep_str (by decide +kernel) | exact Rep.mono (by assumption) (Fr.keep (by k_asm)) | exact rep_two (by k_asm) (by k_mem) (by assumption) (by assumption) (Fr.keep (by k_asm))) Q E (by k_in) (Top.keeps (by assumption) (Fr.keep (by k_asm))) hQ) ?k1 ?k2 ?k3 ?k4 ?k5 ?k6 ?_; (case k1 => k_asm); (case k2 => k_asm); (case k3 => exact rfl); (case k4 => exact rfl); (case k5 => exact Nat.le_of_ble_eq_true rfl); (case k6 => exact Nat.le_of_ble_eq_true rfl); k_whole; intro zqhp zqtkp zqep zqdp zqtap zqodp zqup zqFp zqNp zqn1 zqn2 zqn3 zqhm zqhf; (try simp only [AllNe, and_true] at zqn1 zqn2 zqn3); (have hl0 := zqhf _ (.head _)); (have hl1 := zqhf _ (.tail _ (.head _))); (have hl2 := zqhf _ (.tail _ (.tail _ (.head _)))); (dsimp only at hl0 hl1 hl2); clear zqhf)))
  k_with "call ref" => ((k_here; (with_reducible show wpAny _ _ (call (Value.ref 175) [_, _, _]) _ _ _); k_dflt (refine' err_use (fun Q E hQ => conID _ _ _ _ _ _ (by first | exact rep_str (by decide +kernel) | exact Rep.mono (by assumption) (Fr.keep (by k_asm)) | exact rep_two (by k_asm) (by k_mem) (by assumption) (by assumption) (Fr.keep (by k_asm))) _ (by first | exact rep_str (by decide +kernel) | exact Rep.mono (by assumption) (Fr.keep (by k_asm)) | exact rep_two (by k_asm) (by k_mem) (by assumption) (by assumption) (Fr.keep (by k_asm))) _ (by first | exact rep_str (by decide +kernel) | exact Rep.mono (by assumption) (Fr.keep (by k_asm)) | exact rep_two (by k_asm) (by k_mem) (by assumption) (by assumption) (Fr.keep (by k_asm))) Q E (by k_in) (Top.keeps (by assumption) (Fr.keep (by k_asm))) hQ) ?k1 ?k2 ?k3 ?k4 ?k5 ?k6 ?_; (case k1 => k_asm); (case k2 => k_asm); (case k3 => exact rfl); (case k4 => exact rfl); (case k5 => exact Nat.le_of_ble_eq_true rfl); (case k6 => exact Nat.le_of_ble_eq_true rfl); k_whole; intro zqhp zqtkp zqep zqdp zqtap zqodp zqup zqFp zqNp zqn1 zqn2 zqn3 zqhm zqhf; (try simp only [AllNe, and_true] at zqn1 zqn2 zqn3); (have hl0 := zqhf _ (.head _)); (have hl1 := zqhf _ (.tail _ (.head _))); (dsimp only at hl0 hl1); clear zqhf)))
  k_with "getAttr ref" => ((k_here; k_dflt (refine' gets_led6 (f := 36) ?k1 ?k2 ?k3 ?k4 ?k5 ?k6 ?k7 ?k8 ?k9 ?_; (case k1 => k_asm); (case k2 => k_asm); (case k3 => k_asm); (case k4 => k_mem); (case k5 => k_mem); (case k6 => kernel_rfl); (case k8 => assumption); (case k7 => kernel_rfl); (case k9 => exact rfl))))
  trivial
theorem bear4 : ∀ {p : Program} {loose : List Str} {mean : ExcName → Option Value} {mg mb : Str → Option Value} (w : World) (s : Shared) (e : Addr) (wl : Str) (tk0 : Tok) (RL : Rep PySem.Challenge.rw_dm0028_06.prog w s.heap (.ref e) wl) (RI : RepI PySem.Challenge.rw_dm0028_06.prog w s.heap (.ref e) wl) (hwl : wl.length ≤ 1000)
    (Q E : Value → Shared → Prop) (KX : (hz.heap_178 w.params).In s.heap) (T : Top p loose mean mg mb s.heap)
    (hQ : ∀ h' tk (l e2 : Addr) (hd tl : Str) (place : Nat) (t1 t2 t3 : Tok) (n : Nat) (new : List (Addr × Obj)), Grow s.heap h' → BearC s.heap h' e wl l e2 hd tl place t1 t2 t3 n new → Q (.ref l) { s with heap := h', toks := tk }),
    wpAny (model PySem.Challenge.rw_dm0028_06.prog w) (AD 500 1500) (call (.ref 191) [.int 4 tk0, .ref e]) Q E s := by
  w_top off
  k_fill
  intro p loose mean mg mb w s e wl tk0 RL RI hwl Q E KX T hQ
  obtain ⟨hh, g, dr, tk, os⟩ := s
  dsimp only at KX T RL RI hQ
  w_strict (
  refine wpAny_call ?_
  k_dflt (refine' enter_new (h₀ := hh) (binds := [("kind", .int 4 tk0), ("last", .ref e)]) (news := []) ?k1 ?k2 KX T.nolimit ?k9 ?k5 ?k6 ?k7 ?k8 ?kB ?c2 ?c3 ?c4 ?c5 ?_; (case k5 => k_is); (case k6 => k_is); (case k7 => exact Nat.le_of_ble_eq_true rfl); (case k8 => first | exact BindsTo.of_eq rfl | exact binds_K KX rfl (by k_is) rfl rfl rfl); (case c5 => decide); (case kB => exact locs rfl); (case c2 => exact rfl); (case c3 => exact rfl); (case c4 => exact rfl); (case k1 => exact fun _ _ e => e); (case k2 => exact Nat.le_refl _); (case k9 => exact List.forall_mem_nil _))
  intro L' h' tk' F' N' l1
  walk_at "mine texts"
  k_steps
  (with_reducible rename Fr _ _ _ _ => Fz)
  (with_reducible rename News _ _ _ _ => Nz)
  (with_reducible rename lookIn (Str.ofString "message") _ = _ => hmz)
  refine hQ _ _ _ _ _ _ 3 _ _ _ _ _ Fz.keep (bear_end (new := _) (C := 156) Nz (by k_mem) (by decide) (by k_mem) (by k_mem) (by k_mem) hmz ?_ (.inl rfl) (Nat.le_of_ble_eq_true rfl) (fun p hp => hp) ?_)
  · simp only [cps6, List.append_assoc]
    all_goals kernel_rfl
  · exact ⟨Nat.le_of_ble_eq_true (by kernel_rfl), Nat.le_of_ble_eq_true (by kernel_rfl)⟩)
theorem bear5 : ∀ {p : Program} {loose : List Str} {mean : ExcName → Option Value} {mg mb : Str → Option Value} (w : World) (s : Shared) (e : Addr) (wl : Str) (tk0 : Tok) (RL : Rep PySem.Challenge.rw_dm0028_06.prog w s.heap (.ref e) wl) (RI : RepI PySem.Challenge.rw_dm0028_06.prog w s.heap (.ref e) wl) (hwl : wl.length ≤ 1000)
    (Q E : Value → Shared → Prop) (KX : (hz.heap_178 w.params).In s.heap) (T : Top p loose mean mg mb s.heap)
    (hQ : ∀ h' tk (l e2 : Addr) (hd tl : Str) (place : Nat) (t1 t2 t3 : Tok) (n : Nat) (new : List (Addr × Obj)), Grow s.heap h' → BearC s.heap h' e wl l e2 hd tl place t1 t2 t3 n new → Q (.ref l) { s with heap := h', toks := tk }),
    wpAny (model PySem.Challenge.rw_dm0028_06.prog w) (AD 500 1500) (call (.ref 191) [.int 5 tk0, .ref e]) Q E s := by
  w_top off
  k_fill
  intro p loose mean mg mb w s e wl tk0 RL RI hwl Q E KX T hQ
  obtain ⟨hh, g, dr, tk, os⟩ := s
  dsimp only at KX T RL RI hQ
  w_strict (
  refine wpAny_call ?_
  k_dflt (refine' enter_new (h₀ := hh) (binds := [("kind", .int 5 tk0), ("last", .ref e)]) (news := []) ?k1 ?k2 KX T.nolimit ?k9 ?k5 ?k6 ?k7 ?k8 ?kB ?c2 ?c3 ?c4 ?c5 ?_; (case k5 => k_is); (case k6 => k_is); (case k7 => exact Nat.le_of_ble_eq_true rfl); (case k8 => first | exact BindsTo.of_eq rfl | exact binds_K KX rfl (by k_is) rfl rfl rfl); (case c5 => decide); (case kB => exact locs rfl); (case c2 => exact rfl); (case c3 => exact rfl); (case c4 => exact rfl); (case k1 => exact fun _ _ e => e); (case k2 => exact Nat.le_refl _); (case k9 => exact List.forall_mem_nil _))
  intro L' h' tk' F' N' l1
  walk_at "mine texts"
  k_steps
  (with_reducible rename Fr _ _ _ _ => Fz)
  (with_reducible rename News _ _ _ _ => Nz)
  (with_reducible rename lookIn (Str.ofString "message") _ = _ => hmz)
  refine hQ _ _ _ _ _ _ 1 _ _ _ _ _ Fz.keep (bear_end (new := _) (C := 175) Nz (by k_mem) (by decide) (by k_mem) (by k_mem) (by k_mem) hmz ?_ (.inl rfl) (Nat.le_of_ble_eq_true rfl) (fun p hp => hp) ?_)
  · simp only [cps6, List.append_assoc]
    all_goals kernel_rfl
  · exact ⟨Nat.le_of_ble_eq_true (by kernel_rfl), Nat.le_of_ble_eq_true (by kernel_rfl)⟩)
theorem bear6 : ∀ {p : Program} {loose : List Str} {mean : ExcName → Option Value} {mg mb : Str → Option Value} (w : World) (s : Shared) (e : Addr) (wl : Str) (tk0 : Tok) (RL : Rep PySem.Challenge.rw_dm0028_06.prog w s.heap (.ref e) wl) (RI : RepI PySem.Challenge.rw_dm0028_06.prog w s.heap (.ref e) wl) (hwl : wl.length ≤ 1000)
    (Q E : Value → Shared → Prop) (KX : (hz.heap_178 w.params).In s.heap) (T : Top p loose mean mg mb s.heap)
    (hQ : ∀ h' tk (l e2 : Addr) (hd tl : Str) (place : Nat) (t1 t2 t3 : Tok) (n : Nat) (new : List (Addr × Obj)), Grow s.heap h' → BearC s.heap h' e wl l e2 hd tl place t1 t2 t3 n new → Q (.ref l) { s with heap := h', toks := tk }),
    wpAny (model PySem.Challenge.rw_dm0028_06.prog w) (AD 500 1500) (call (.ref 191) [.int 6 tk0, .ref e]) Q E s := by
  w_top off
  k_fill
  intro p loose mean mg mb w s e wl tk0 RL RI hwl Q E KX T hQ
  obtain ⟨hh, g, dr, tk, os⟩ := s
  dsimp only at KX T RL RI hQ
  w_strict (
  refine wpAny_call ?_
  k_dflt (refine' enter_new (h₀ := hh) (binds := [("kind", .int 6 tk0), ("last", .ref e)]) (news := []) ?k1 ?k2 KX T.nolimit ?k9 ?k5 ?k6 ?k7 ?k8 ?kB ?c2 ?c3 ?c4 ?c5 ?_; (case k5 => k_is); (case k6 => k_is); (case k7 => exact Nat.le_of_ble_eq_true rfl); (case k8 => first | exact BindsTo.of_eq rfl | exact binds_K KX rfl (by k_is) rfl rfl rfl); (case c5 => decide); (case kB => exact locs rfl); (case c2 => exact rfl); (case c3 => exact rfl); (case c4 => exact rfl); (case k1 => exact fun _ _ e => e); (case k2 => exact Nat.le_refl _); (case k9 => exact List.forall_mem_nil _))
  intro L' h' tk' F' N' l1
  walk_at "mine texts"
  k_steps
  (with_reducible rename Fr _ _ _ _ => Fz)
  (with_reducible rename News _ _ _ _ => Nz)
  (with_reducible rename lookIn (Str.ofString "message") _ = _ => hmz)
  refine hQ _ _ _ _ _ _ 0 _ _ _ _ _ Fz.keep (bear_end (new := _) (C := 59) Nz (by k_mem) (by decide) (by k_mem) (by k_mem) (by k_mem) hmz ?_ (.inr ⟨_, _, rfl, by k_mem⟩) (Nat.le_of_ble_eq_true rfl) (fun p hp => hp) ?_)
  · simp only [pairText, cps6, List.append_assoc]
    all_goals kernel_rfl
  · exact ⟨Nat.le_of_ble_eq_true (by kernel_rfl), Nat.le_of_ble_eq_true (by kernel_rfl)⟩)
end
section
theorem lay9 : True := by
  k_with_none
  k_with "ne" => (with_reducible (first | exact ns1 | exact ns2 | exact qlt (by assumption) | exact qgt (by assumption) | exact qne (by assumption) | exact qen (by assumption) | exact rlt (by assumption) | exact rgt (by assumption) | exact rne (by assumption) | exact ren (by assumption) | exact qlt (And.right (by assumption)) | exact qgt (And.right (by assumption)) | exact qne (And.right (by assumption)) | exact qen (And.right (by assumption)) | exact rlt (And.right (by assumption)) | exact rgt (And.right (by assumption)) | exact rne (And.right (by assumption)) | exact ren (And.right (by assumption)) | exact qlt (And.right (And.right (by assumption))) | exact qgt (And.right (And.right (by assumption))) | exact qne (And.right (And.right (by assumption))) | exact qen (And.right (And.right (by assumption))) | exact rlt (And.right (And.right (by assumption))) | exact rgt (And.right (And.right (by assumption))) | exact rne (And.right (And.right (by assumption))) | exact ren (And.right (And.right (by assumption))) | exact qlt (And.right (And.right (And.right (by assumption)))) | exact qgt (And.right (And.right (And.right (by assumption)))) | exact qne (And.right (And.right (And.right (by assumption)))) | exact qen (And.right (And.right (And.right (by assumption)))) | exact rlt (And.right (And.right (And.right (by assumption)))) | exact rgt (And.right (And.right (And.right (by assumption)))) | exact rne (And.right (And.right (And.right (by assumption)))) | exact ren (And.right (And.right (And.right (by assumption)))) | exact qlt (And.right (And.right (And.right (And.right (by assumption))))) | exact qgt (And.right (And.right (And.right (And.right (by assumption))))) | exact qne (And.right (And.right (And.right (And.right (by assumption))))) | exact qen (And.right (And.right (And.right (And.right (by assumption))))) | exact rlt (And.right (And.right (And.right (And.right (by assumption))))) | exact rgt (And.right (And.right (And.right (And.right (by assumption))))) | exact rne (And.right (And.right (And.right (And.right (by assumption))))) | exact ren (And.right (And.right (And.right (And.right (by assumption))))) | exact qlt (And.right (And.right (And.right (And.right (And.right (by assumption)))))) | exact qgt (And.right (And.right (And.right (And.right (And.right (by assumption)))))) | exact qne (And.right (And.right (And.right (And.right (And.right (by assumption)))))) | exact qen (And.right (And.right (And.right (And.right (And.right (by assumption)))))) | exact rlt (And.right (And.right (And.right (And.right (And.right (by assumption)))))) | exact rgt (And.right (And.right (And.right (And.right (And.right (by assumption)))))) | exact rne (And.right (And.right (And.right (And.right (And.right (by assumption)))))) | exact ren (And.right (And.right (And.right (And.right (And.right (by assumption)))))) | exact qlt (And.right (And.right (And.right (And.right (And.right (And.right (by assumption))))))) | exact qgt (And.right (And.right (And.right (And.right (And.right (And.right (by assumption))))))) | exact qne (And.right (And.right (And.right (And.right (And.right (And.right (by assumption))))))) | exact qen (And.right (And.right (And.right (And.right (And.right (And.right (by assumption))))))) | exact rlt (And.right (And.right (And.right (And.right (And.right (And.right (by assumption))))))) | exact rgt (And.right (And.right (And.right (And.right (And.right (And.right (by assumption))))))) | exact rne (And.right (And.right (And.right (And.right (And.right (And.right (by assumption))))))) | exact ren (And.right (And.right (And.right (And.right (And.right (And.right (by assumption))))))) | exact qlt (And.right (And.right (And.right (And.right (And.right (And.right (And.right (by assumption)))))))) | exact qgt (And.right (And.right (And.right (And.right (And.right (And.right (And.right (by assumption)))))))) | exact qne (And.right (And.right (And.right (And.right (And.right (And.right (And.right (by assumption)))))))) | exact qen (And.right (And.right (And.right (And.right (And.right (And.right (And.right (by assumption)))))))) | exact rlt (And.right (And.right (And.right (And.right (And.right (And.right (And.right (by assumption)))))))) | exact rgt (And.right (And.right (And.right (And.right (And.right (And.right (And.right (by assumption)))))))) | exact rne (And.right (And.right (And.right (And.right (And.right (And.right (And.right (by assumption)))))))) | exact ren (And.right (And.right (And.right (And.right (And.right (And.right (And.right (by assumption)))))))) | exact qlt (And.right (And.right (And.right (And.right (And.right (And.right (And.right (And.right (by assumption))))))))) | exact qgt (And.right (And.right (And.right (And.right (And.right (And.right (And.right (And.right (by assumption))))))))) | exact qne (And.right (And.right (And.right (And.right (And.right (And.right (And.right (And.right (by assumption))))))))) | exact qen (And.right (And.right (And.right (And.right (And.right (And.right (And.right (And.right (by assumption))))))))) | exact rlt (And.right (And.right (And.right (And.right (And.right (And.right (And.right (And.right (by assumption))))))))) | exact rgt (And.right (And.right (And.right (And.right (And.right (And.right (And.right (And.right (by assumption))))))))) | exact rne (And.right (And.right (And.right (And.right (And.right (And.right (And.right (And.right (by assumption))))))))) | exact ren (And.right (And.right (And.right (And.right (And.right (And.right (And.right (And.right (by assumption))))))))) | exact qlt (And.right (And.right (And.right (And.right (And.right (And.right (And.right (And.right (And.right (by assumption)))))))))) | exact qgt (And.right (And.right (And.right (And.right (And.right (And.right (And.right (And.right (And.right (by assumption)))))))))) | exact qne (And.right (And.right (And.right (And.right (And.right (And.right (And.right (And.right (And.right (by assumption)))))))))) | exact qen (And.right (And.right (And.right (And.right (And.right (And.right (And.right (And.right (And.right (by assumption)))))))))) | exact rlt (And.right (And.right (And.right (And.right (And.right (And.right (And.right (And.right (And.right (by assumption)))))))))) | exact rgt (And.right (And.right (And.right (And.right (And.right (And.right (And.right (And.right (And.right (by assumption)))))))))) | exact rne (And.right (And.right (And.right (And.right (And.right (And.right (And.right (And.right (And.right (by assumption)))))))))) | exact ren (And.right (And.right (And.right (And.right (And.right (And.right (And.right (And.right (And.right (by assumption)))))))))) | exact qlt (And.right (And.right (And.right (And.right (And.right (And.right (And.right (And.right (And.right (And.right (by assumption))))))))))) | exact qgt (And.right (And.right (And.right (And.right (And.right (And.right (And.right (And.right (And.right (And.right (by assumption))))))))))) | exact qne (And.right (And.right (And.right (And.right (And.right (And.right (And.right (And.right (And.right (And.right (by assumption))))))))))) | exact qen (And.right (And.right (And.right (And.right (And.right (And.right (And.right (And.right (And.right (And.right (by assumption))))))))))) | exact rlt (And.right (And.right (And.right (And.right (And.right (And.right (And.right (And.right (And.right (And.right (by assumption))))))))))) | exact rgt (And.right (And.right (And.right (And.right (And.right (And.right (And.right (And.right (And.right (And.right (by assumption))))))))))) | exact rne (And.right (And.right (And.right (And.right (And.right (And.right (And.right (And.right (And.right (And.right (by assumption))))))))))) | exact ren (And.right (And.right (And.right (And.right (And.right (And.right (And.right (And.right (And.right (And.right (by assumption))))))))))) | exact qlt (And.right (And.right (And.right (And.right (And.right (And.right (And.right (And.right (And.right (And.right (And.right (by assumption)))))))))))) | exact qgt (And.right (And.right (And.right (And.right (And.right (And.right (And.right (And.right (And.right (And.right (And.right (by assumption)))))))))))) | exact qne (And.right (And.right (And.right (And.right (And.right (And.right (And.right (And.right (And.right (And.right (And.right (by assumption)))))))))))) | exact qen (And.right (And.right (And.right (And.right (And.right (And.right (And.right (And.right (And.right (And.right (And.right (by assumption)))))))))))) | exact rlt (And.right (And.right (And.right (And.right (And.right (And.right (And.right (And.right (And.right (And.right (And.right (by assumption)))))))))))) | exact rgt (And.right (And.right (And.right (And.right (And.right (And.right (And.right (And.right (And.right (And.right (And.right (by assumption)))))))))))) | exact rne (And.right (And.right (And.right (And.right (And.right (And.right (And.right (And.right (And.right (And.right (And.right (by assumption)))))))))))) | exact ren (And.right (And.right (And.right (And.right (And.right (And.right (And.right (And.right (And.right (And.right (And.right (by assumption)))))))))))) | exact qlt (And.right (And.right (And.right (And.right (And.right (And.right (And.right (And.right (And.right (And.right (And.right (And.right (by assumption))))))))))))) | exact qgt (And.right (And.right (And.right (And.right (And.right (And.right (And.right (And.right (And.right (And.right (And.right (And.right (by assumption))))))))))))) | exact qne (And.right (And.right (And.right (And.right (And.right (And.right (And.right (And.right (And.right (And.right (And.right (And.right (by assumption))))))))))))) | exact qen (And.right (And.right (And.right (And.right (And.right (And.right (And.right (And.right (And.right (And.right (And.right (And.right (by assumption))))))))))))) | exact rlt (And.right (And.right (And.right (And.right (And.right (And.right (And.right (And.right (And.right (And.right (And.right (And.right (by assumption))))))))))))) | exact rgt (And.right (And.right (And.right (And.right (And.right (And.right (And.right (And.right (And.right (And.right (And.right (And.right (by assumption))))))))))))) | exact rne (And.right (And.right (And.right (And.right (And.right (And.right (And.right (And.right (And.right (And.right (And.right (And.right (by assumption))))))))))))) | exact ren (And.right (And.right (And.right (And.right (And.right (And.right (And.right (And.right (And.right (And.right (And.right (And.right (by assumption))))))))))))) | exact qlt (And.right (And.right (And.right (And.right (And.right (And.right (And.right (And.right (And.right (And.right (And.right (And.right (And.right (by assumption)))))))))))))) | exact qgt (And.right (And.right (And.right (And.right (And.right (And.right (And.right (And.right (And.right (And.right (And.right (And.right (And.right (by assumption)))))))))))))) | exact qne (And.right (And.right (And.right (And.right (And.right (And.right (And.right (And.right (And.right (And.right (And.right (And.right (And.right (by assumption)))))))))))))) | exact qen (And.right (And.right (And.right (And.right (And.right (And.right (And.right (And.right (And.right (And.right (And.right (And.right (And.right (by assumption)))))))))))))) | exact rlt (And.right (And.right (And.right (And.right (And.right (And.right (And.right (And.right (And.right (And.right (And.right (And.right (And.right (by assumption)))))))))))))) | exact rgt (And.right (And.right (And.right (And.right (And.right (And.right (And.right (And.right (And.right (And.right (And.right (And.right (And.right (by assumption)))))))))))))) | exact rne (And.right (And.right (And.right (And.right (And.right (And.right (And.right (And.right (And.right (And.right (And.right (And.right (And.right (by assumption)))))))))))))) | exact ren (And.right (And.right (And.right (And.right (And.right (And.right (And.right (And.right (And.right (And.right (And.right (And.right (And.right (by assumption)))))))))))))) | exact qlt (And.right (And.right (And.right (And.right (And.right (And.right (And.right (And.right (And.right (And.right (And.right (And.right (And.right (And.right (by assumption))))))))))))))) | exact qgt (And.right (And.right (And.right (And.right (And.right (And.right (And.right (And.right (And.right (And.right (And.right (And.right (And.right (And.right (by assumption))))))))))))))) | exact qne (And.right (And.right (And.right (And.right (And.right (And.right (And.right (And.right (And.right (And.right (And.right (And.right (And.right (And.right (by assumption))))))))))))))) | exact qen (And.right (And.right (And.right (And.right (And.right (And.right (And.right (And.right (And.right (And.right (And.right (And.right (And.right (And.right (by assumption))))))))))))))) | exact rlt (And.right (And.right (And.right (And.right (And.right (And.right (And.right (And.right (And.right (And.right (And.right (And.right (And.right (And.right (by assumption))))))))))))))) | exact rgt (And.right (And.right (And.right (And.right (And.right (And.right (And.right (And.right (And.right (And.right (And.right (And.right (And.right (And.right (by assumption))))))))))))))) | exact rne (And.right (And.right (And.right (And.right (And.right (And.right (And.right (And.right (And.right (And.right (And.right (And.right (And.right (And.right (by assumption))))))))))))))) | exact ren (And.right (And.right (And.right (And.right (And.right (And.right (And.right (And.right (And.right (And.right (And.right (And.right (And.right (And.right (by assumption))))))))))))))) | exact qlt (And.right (And.right (And.right (And.right (And.right (And.right (And.right (And.right (And.right (And.right (And.right (And.right (And.right (And.right (And.right (by assumption)))))))))))))))) | exact qgt (And.right (And.right (And.right (And.right (And.right (And.right (And.right (And.right (And.right (And.right (And.right (And.right (And.right (And.right (And.right (by assumption)))))))))))))))) | exact qne (And.right (And.right (And.right (And.right (And.right (And.right (And.right (And.right (And.right (And.right (And.right (And.right (And.right (And.right (And.right (by assumption)))))))))))))))) | exact qen (And.right (And.right (And.right (And.right (And.right (And.right (And.right (And.right (And.right (And.right (And.right (And.right (And.right (And.right (And.right (by assumption)))))))))))))))) | exact rlt (And.right (And.right (And.right (And.right (And.right (And.right (And.right (And.right (And.right (And.right (And.right (And.right (And.right (And.right (And.right (by assumption)))))))))))))))) | exact rgt (And.right (And.right (And.right (And.right (And.right (And.right (And.right (And.right (And.right (And.right (And.right (And.right (And.right (And.right (And.right (by assumption)))))))))))))))) | exact rne (And.right (And.right (And.right (And.right (And.right (And.right (And.right (And.right (And.right (And.right (And.right (And.right (And.right (And.right (And.right (by assumption)))))))))))))))) | exact ren (And.right (And.right (And.right (And.right (And.right (And.right (And.right (And.right (And.right (And.right (And.right (And.right (And.right (And.right (And.right (by assumption))))))))))))))))))
  trivial
theorem lay10 : True := by
  k_with "mine texts" => ((try dsimp only [← sx0, ← sx1, ← sx2, ← sx3, ← sx4, ← sx5, ← sx6, ← sx7, ← sx8, ← sx9, ← sx10, ← sx11, ← sx12, ← sx13, ← sx14, ← sx15, ← sx16, ← sx17, ← sx18, ← sx19, ← sx20, ← sx21, ← sx22, ← sx23, ← sx24, ← sx25, ← sx26, ← sx27, ← sx28, ← sx29, ← sx30, ← sx31, ← sx32, ← sx33, ← sx34, ← sx35, ← sx36, ← sx37, ← sx38, ← sx39, ← sx40, ← sx41, ← sx42, ← sx43, ← sx44, ← sx45, ← sx46, ← sx47, ← sx48, ← sx49, ← sx50, ← sx51, ← sx52, ← sx53, ← sx54, ← sx55, ← sx56, ← sx57, ← sx58, ← sx59, ← sx60, ← sx61, ← sx62, ← sx63, ← sx64, ← sx65, ← sx66, ← sx67, ← sx68, ← sx69, ← sx70, ← sx71, ← sx72, ← sx73, ← sx74, ← sx75, ← sx76, ← sx77, ← sx78, ← sx79, ← sx80, ← sx81, ← sx82, ← sx83, ← sx84, ← sx85, ← sx86, ← sx87, ← sx88, ← sx89, ← sx90, ← sx91, ← sx92, ← sx93, ← sx94, ← sx95, ← sx96, ← sx97, ← sx98, ← sx99, ← sx100, ← sx101, ← sx102, ← sx103, ← sx104, ← sx105, ← sx106, ← sx107, ← sx108, ← sx109, ← sx110, ← sx111, ← sx112, ← sx113, ← sx114]))
  k_with "mine drop" => (first | (refine' Drop.head ?a; (case a => k_all)) | (refine' Drop.tail ?a ?b; (case a => k_ne); (case b => walk_at "mine drop")))
  k_with "setAttr ref" => ((k_here; k_dflt (first | (refine' exc_set0 ?k1 ?k2 ?k3 ?k4 ?k5 ?k6 ?k7 ?k8 ?k9 ?_; (case k1 => k_asm); (case k2 => k_asm); (case k3 => k_asm); (case k4 => k_mem); (case k5 => k_is); (case k6 => kernel_rfl); (case k7 => k_is); (case k8 => k_is); (case k9 => intro zqd; k_upd); k_whole; intro zqdp zqhp zqFp zqNp zql1; (try k_lt zql1)) | (refine' exc_set_args ?k1 ?k2 ?k3 ?k4 ?k5 ?k6 ?k7 ?k8 ?k9 ?k10 ?_; (case k1 => k_asm); (case k2 => k_asm); (case k3 => k_asm); (case k4 => first | (refine' InstAt.of_exc ?N ?h1 ?h2; (case N => k_asm); (case h1 => k_mem); (case h2 => k_mem)) | (refine' InstAt.of_exc0 ?N ?h1; (case N => k_asm); (case h1 => k_mem))); (case k5 => exact isTup_of (by k_asm) (by k_mem)); (case k6 => k_is); (case k7 => kernel_rfl); (case k8 => k_is); (case k9 => k_is); (case k10 => k_upd); k_whole; intro zqhp zqFp zqNp) | (refine' exc_set ?k1 ?k2 ?k3 ?k4 ?k5 ?k6 ?k7 ?k8 ?k9 ?k10 ?k11 ?k12 ?_; (case k1 => k_asm); (case k2 => k_asm); (case k3 => k_asm); (case k4 => first | (refine' InstAt.of_exc ?N ?h1 ?h2; (case N => k_asm); (case h1 => k_mem); (case h2 => k_mem)) | (refine' InstAt.of_exc0 ?N ?h1; (case N => k_asm); (case h1 => k_mem))); (case k5 => k_is); (case k6 => kernel_rfl); (case k7 => k_is); (case k8 => k_is); (case k9 => k_get); (case k10 => k_put); (case k11 => k_upd); (case k12 => exact Nat.le_of_ble_eq_true rfl); k_whole; intro zqhp zqFp zqNp))))
  k_with "call builtin:Exception.__init__" => ((k_here; k_dflt (refine' exc_init_call ?k1 ?k2 ?k3 ?k4 ?k5 ?k6 ?_; (case k1 => k_asm); (case k2 => k_asm); (case k3 => k_asm); (case k4 => first | (refine' InstAt.of_exc ?N ?h1 ?h2; (case N => k_asm); (case h1 => k_mem); (case h2 => k_mem)) | (refine' InstAt.of_exc0 ?N ?h1; (case N => k_asm); (case h1 => k_mem))); (case k5 => k_is); (case k6 => intro zqt; k_upd); k_whole; intro zqtp zqhp zqFp zqNp zql1; (try k_lt zql1))))
  k_with "call builtin:repr" => ((k_here; k_dflt (refine' repr_use ?k1 ?k2 ?k3 ?k4 ?k5 ?k6 ?k7 ?_; (case k1 => assumption); (case k2 => k_asm); (case k3 => k_asm); (case k4 => exact rfl); (case k5 => exact rfl); (case k6 => exact Nat.le_of_ble_eq_true rfl); (case k7 => exact Nat.le_of_ble_eq_true rfl); k_whole; intro zqhp zqup zqtkp zqFp zqNp)))
  k_with "BackIn" => ((k_dflt (refine' back_ ?k1 ?k2 ?k3 ?_; (case k1 => k_asm); (case k2 => k_asm); (case k3 => walk_at "mine drop"); k_whole; intro zqFp zqNp; (try dsimp only))))
  k_with "call ref" => ((k_here; k_dflt (refine wpAny_call ?_; refine' enter_in ?k1 ?k2 ?k3 ?k4 ?k5 ?k6 ?k7 ?k8 ?kB ?c2 ?c3 ?c4 ?c5 ?_; (case k1 => k_asm); (case k2 => k_asm); (case k3 => k_asm); (case k4 => exact Top.nolimit (by assumption)); (case k5 => k_is); (case k6 => k_is); (case k7 => exact Nat.le_of_ble_eq_true rfl); (case k8 => first | ((with_reducible show BindsTo _ _ ⟨[_], []⟩ _); first | exact BindsTo.of_eq (binds := [(_, _)]) rfl | exact binds_K (binds := [(_, _)]) (by k_in) rfl (by k_is) rfl rfl rfl) | ((with_reducible show BindsTo _ _ ⟨[_, _], []⟩ _); first | exact BindsTo.of_eq (binds := [(_, _), (_, _)]) rfl | exact binds_K (binds := [(_, _), (_, _)]) (by k_in) rfl (by k_is) rfl rfl rfl) | ((with_reducible show BindsTo _ _ ⟨[_, _, _], []⟩ _); first | exact BindsTo.of_eq (binds := [(_, _), (_, _), (_, _)]) rfl | exact binds_K (binds := [(_, _), (_, _), (_, _)]) (by k_in) rfl (by k_is) rfl rfl rfl) | ((with_reducible show BindsTo _ _ ⟨[_, _, _, _], []⟩ _); first | exact BindsTo.of_eq (binds := [(_, _), (_, _), (_, _), (_, _)]) rfl | exact binds_K (binds := [(_, _), (_, _), (_, _), (_, _)]) (by k_in) rfl (by k_is) rfl rfl rfl) | ((with_reducible show BindsTo _ _ ⟨[_, _, _, _, _], []⟩ _); first | exact BindsTo.of_eq (binds := [(_, _), (_, _), (_, _), (_, _), (_, _)]) rfl | exact binds_K (binds := [(_, _), (_, _), (_, _), (_, _), (_, _)]) (by k_in) rfl (by k_is) rfl rfl rfl)); (case c5 => decide); (case kB => exact locs rfl); (case c2 => exact rfl); (case c3 => exact rfl); (case c4 => exact rfl); k_whole; intro zqoLp zqLp zqhp zqtkp zqFp zqNp zql1 zqn1; (try k_lt zql1); (try (replace zqn1 := allNe_of zqn1; simp only [AllNe, and_true] at zqn1)); (try dsimp only); walk_at "mine texts")))
  k_with "call builtin:str.join" => ((k_here; (with_reducible show wpAny _ _ (call (Value.builtin "str.join") [Value.str _ _, Value.ref _]) _ _ _); k_dflt (refine join_listC (by is_list) (by repeat constructor) (by decide) (by (simp only [List.map_cons, List.map_nil, List.sum_cons, List.sum_nil, List.length_cons, List.length_nil]; omega)) ?_); intro zqtp zqkp))
  k_with "getMethod type:Exception" => ((k_here; refine' method_type ?F ?X ?m (by decide +kernel) ?e ?h ?_; (case F => k_asm); (case X => k_asm); (case m => exact meta_Exception); (case e => k_dflt k_is); (case h => k_handed)))
  k_with "compareOp IsNot" => ((k_here; k_dflt (refine isNot_none (by assumption) ?_)))
  k_with "call builtin:str.format" => ((k_here; k_dflt (refine' line_use ?k1 ?k2 ?k3 ?k4 ?k5 ?k6 ?k7 ?_; (case k1 => assumption); (case k2 => k_asm); (case k3 => k_asm); (case k4 => exact rfl); (case k5 => exact rfl); (case k6 => exact Nat.le_of_ble_eq_true rfl); (case k7 => exact Nat.le_of_ble_eq_true rfl); k_whole; intro zqhp zqup zqtkp zqFp zqNp)))
  k_with "call builtin:str.format" => ((k_here; (with_reducible show wpAny _ _ (call (Value.builtin "str.format") [Value.str _ _, _, _, _, _]) _ _ _); k_dflt (refine' fmt_use ?k1 ?k2 ?k3 ?k4 ?k5 ?_; (case k1 => k_asm); (case k2 => k_asm); (case k3 => exact ⟨rfl, rfl, Nat.le_of_ble_eq_true rfl, Nat.le_of_ble_eq_true rfl⟩); (case k4 => exact args_5 _ _ _ _ _); (case k5 => walk_at "mine fmt")); k_whole; intro zqhp zqup zqtkp zqFp zqNp))
  k_with "pyReprObj" => ((k_here; k_dflt (refine' reprObj_use ?k1 ?k2 ?k3 ?k4 ?k5 ?k6 ?k7 ?_; (case k1 => assumption); (case k2 => k_asm); (case k3 => k_asm); (case k4 => exact rfl); (case k5 => exact rfl); (case k6 => exact Nat.le_of_ble_eq_true rfl); (case k7 => exact Nat.le_of_ble_eq_true rfl); k_whole; intro zqhp zqup zqtkp zqFp zqNp)))
  k_with "call ref" => ((k_here; (with_reducible show wpAny _ _ (call (Value.ref 79) [_, _, Value.int _ _]) _ _ _); k_dflt (refine' err_use (fun Q E hQ => conDSi _ _ _ _ (by intro zqh; cases zqh) _ _ _ (by assumption) _ (by first | exact rep_str (by decide +kernel) | exact Rep.mono (by assumption) (Fr.keep (by k_asm)) | exact rep_two (by k_asm) (by k_mem) (by assumption) (by assumption) (Fr.keep (by k_asm))) _ (by first | exact rep_str (by decide +kernel) | exact Rep.mono (by assumption) (Fr.keep (by k_asm)) | exact rep_two (by k_asm) (by k_mem) (by assumption) (by assumption) (Fr.keep (by k_asm))) Q E (by k_in) (Top.keeps (by assumption) (Fr.keep (by k_asm))) hQ) ?k1 ?k2 ?k3 ?k4 ?k5 ?k6 ?_; (case k1 => k_asm); (case k2 => k_asm); (case k3 => exact rfl); (case k4 => exact rfl); (case k5 => exact Nat.le_of_ble_eq_true rfl); (case k6 => exact Nat.le_of_ble_eq_true rfl); k_whole; intro zqhp zqtkp zqep zqdp zqtap zqodp zqup zqFp zqNp zqn1 zqn2 zqn3 zqhm zqhf; (try simp only [AllNe, and_true] at zqn1 zqn2 zqn3); (have hl0 := zqhf _ (.head _)); (have hl1 := zqhf _ (.tail _ (.head _))); (have hl2 := zqhf _ (.tail _ (.tail _ (.head _)))); (dsimp only at hl0 hl1 hl2); clear zqhf)))
  k_with "call ref" => ((k_here; (with_reducible show wpAny _ _ (call (Value.ref 99) [_, _, _, Value.int _ _]) _ _ _); k_dflt (refine' err_use (fun Q E hQ => conDOi _ _ _ _ _ (by intro zqh; cases zqh) _ _ _ (by assumption) _ (by first | exact rep_str (by decide +kernel) | exact Rep.mono (by assumption) (Fr.keep (by k_asm)) | exact rep_two (by k_asm) (by k_mem) (by assumption) (by assumption) (Fr.keep (by k_asm))) _ (by first | exact rep_str (by decide +kernel) | exact Rep.mono (by assumption) (Fr.keep (by k_asm)) | exact rep_two (by k_asm) (by k_mem) (by assumption) (by assumption) (Fr.keep (by k_asm))) _ (by first | exact rep_str (by decide +kernel) | exact Rep.mono (by assumption) (Fr.keep (by k_asm)) | exact rep_two (by k_asm) (by k_mem) (by assumption) (by assumption) (Fr.keep (by k_asm))) Q E (by k_in) (Top.keeps (by assumption) (Fr.keep (by k_asm))) hQ) ?k1 ?k2 ?k3 ?k4 ?k5 ?k6 ?_; (case k1 => k_asm); (case k2 => k_asm); (case k3 => exact rfl); (case k4 => exact rfl); (case k5 => exact Nat.le_of_ble_eq_true rfl); (case k6 => exact Nat.le_of_ble_eq_true rfl); k_whole; intro zqhp zqtkp zqep zqdp zqtap zqodp zqup zqFp zqNp zqn1 zqn2 zqn3 zqhm zqhf; (try simp only [AllNe, and_true] at zqn1 zqn2 zqn3); (have hl0 := zqhf _ (.head _)); (have hl1 := zqhf _ (.tail _ (.head _))); (have hl2 := zqhf _ (.tail _ (.tail _ (.head _)))); (have hl3 := zqhf _ (.tail _ (.tail _ (.tail _ (.head _))))); (dsimp only at hl0 hl1 hl2 hl3); clear zqhf)))
  k_with "call ref" => ((k_here; (with_reducible show wpAny _ _ (call (Value.ref 99) [_, _, _]) _ _ _); k_dflt (refine' err_use (fun Q E hQ => conDOo _ _ _ _ _ (by intro zqh; cases zqh) _ (by first | exact rep_str (by decide +kernel) | exact Rep.mono (by assumption) (Fr.keep (by k_asm)) | exact rep_two (by k_asm) (by k_mem) (by assumption) (by assumption) (Fr.keep (by k_asm))) _ (by first | exact rep_str (by decide +kernel) | exact Rep.mono (by assumption) (Fr.keep (by k_asm)) | exact rep_two (by k_asm) (by k_mem) (by assumption) (by assumption) (Fr.keep (by k_asm))) _ (by first | exact rep_str (by decide +kernel) | exact Rep.mono (by assumption) (Fr.keep (by k_asm)) | exact rep_two (by k_asm) (by k_mem) (by assumption) (by assumption) (Fr.keep (by k_asm))) Q E (by k_in) (Top.keeps (by assumption) (Fr.keep (by k_asm))) hQ) ?k1 ?k2 ?k3 ?k4 ?k5 ?k6 ?_; (case k1 => k_asm); (case k2 => k_asm); (case k3 => exact rfl); (case k4 => exact rfl); (case k5 => exact Nat.le_of_ble_eq_true rfl); (case k6 => exact Nat.le_of_ble_eq_true rfl); k_whole; intro zqhp zqtkp zqep zqdp zqtap zqodp zqup zqFp zqNp zqn1 zqn2 zqn3 zqhm zqhf; (try simp only [AllNe, and_true] at zqn1 zqn2 zqn3); (have hl0 := zqhf _ (.head _)); (have hl1 := zqhf _ (.tail _ (.head _))); (have hl2 := zqhf _ (.tail _ (.tail _ (.head _)))); (have hl3 := zqhf _ (.tail _ (.tail _ (.tail _ (.head _))))); (dsimp only at hl0 hl1 hl2 hl3); clear zqhf)))
  k_with "getAttr ref" => ((k_here; k_dflt (refine' gets_led6 (f := 36) ?k1 ?k2 ?k3 ?k4 ?k5 ?k6 ?k7 ?k8 ?k9 ?_; (case k1 => k_asm); (case k2 => k_asm); (case k3 => k_asm); (case k4 => k_mem); (case k5 => k_mem); (case k6 => kernel_rfl); (case k8 => assumption); (case k7 => kernel_rfl); (case k9 => exact rfl))))
  trivial
theorem dup0 : ∀ {p : Program} {loose : List Str} {mean : ExcName → Option Value} {mg mb : Str → Option Value} (w : World) (s : Shared) (e : Addr) (wl : Str) (tk0 : Tok) (line : Int) (lt : Tok) (RL : Rep PySem.Challenge.rw_dm0028_06.prog w s.heap (.ref e) wl) (hwl : wl.length ≤ 1000) (h0 : 0 ≤ line) (h1 : line < 100) (LL : Lines PySem.Challenge.rw_dm0028_06.prog w line (lineText line))
    (Q E : Value → Shared → Prop) (KX : (hz.heap_178 w.params).In s.heap) (T : Top p loose mean mg mb s.heap)
    (hQ : ∀ h' tk (l e2 : Addr) (hd tl : Str) (place : Nat) (t1 t2 t3 : Tok) (n : Nat) (new : List (Addr × Obj)), Grow s.heap h' → BearC s.heap h' e wl l e2 hd tl place t1 t2 t3 n new → Q (.ref l) { s with heap := h', toks := tk }),
    wpAny (model PySem.Challenge.rw_dm0028_06.prog w) (AD 500 1500) (call (.ref 184) [.int 0 tk0, .ref e, .int line lt]) Q E s := by
  w_top off
  k_fill
  intro p loose mean mg mb w s e wl tk0 line lt RL hwl h0 h1 LL Q E KX T hQ
  obtain ⟨hh, g, dr, tk, os⟩ := s
  dsimp only at KX T RL hQ
  w_strict (
  refine wpAny_call ?_
  k_dflt (refine' enter_new (h₀ := hh) (binds := [("kind", .int 0 tk0), ("last", .ref e), ("line", .int line lt)]) (news := []) ?k1 ?k2 KX T.nolimit ?k9 ?k5 ?k6 ?k7 ?k8 ?kB ?c2 ?c3 ?c4 ?c5 ?_; (case k5 => k_is); (case k6 => k_is); (case k7 => exact Nat.le_of_ble_eq_true rfl); (case k8 => first | exact BindsTo.of_eq rfl | exact binds_K KX rfl (by k_is) rfl rfl rfl); (case c5 => decide); (case kB => exact locs rfl); (case c2 => exact rfl); (case c3 => exact rfl); (case c4 => exact rfl); (case k1 => exact fun _ _ e => e); (case k2 => exact Nat.le_refl _); (case k9 => exact List.forall_mem_nil _))
  intro L' h' tk' F' N' l1
  walk_at "mine texts"
  k_steps
  all_goals (
    (with_reducible rename Fr _ _ _ _ => Fz)
    (with_reducible rename News _ _ _ _ => Nz)
    (with_reducible rename lookIn (Str.ofString "message") _ = _ => hmz)
    have hT := str6 h0 h1
    refine hQ _ _ _ _ _ _ 1 _ _ _ _ _ Fz.keep (bear_end (new := _) (C := 79) Nz (by k_mem) (by decide) (by k_mem) (by k_mem) (by k_mem) hmz ?za (.inl rfl) (Nat.le_of_ble_eq_true rfl) (fun p hp => hp) ⟨?zb, ?zc⟩)
    case zb => refine Nat.le_trans (m := _) (by with_reducible (repeat' (first | exact hT | apply sl6)); all_goals exact (Nat.le_of_ble_eq_true (by kernel_rfl) : _ ≤ 60)) (Nat.le_of_ble_eq_true rfl)
    case zc => refine Nat.le_trans (m := _) (by with_reducible (repeat' (first | exact hT | apply sl6)); all_goals exact (Nat.le_of_ble_eq_true (by kernel_rfl) : _ ≤ 60)) (Nat.le_of_ble_eq_true rfl)
    case za =>
      simp only [tjc, tj1, cps6, List.append_assoc]
      first | rw [line_hi h0 h1 (by omega)] | rw [line_lo h0 h1 (by omega)] | skip
      try simp only [List.append_assoc]
      generalize (Str.ofString (toString line)).cps.toList = T
      kernel_rfl))
theorem dup1 : ∀ {p : Program} {loose : List Str} {mean : ExcName → Option Value} {mg mb : Str → Option Value} (w : World) (s : Shared) (e : Addr) (wl : Str) (tk0 : Tok) (line : Int) (lt : Tok) (RL : Rep PySem.Challenge.rw_dm0028_06.prog w s.heap (.ref e) wl) (hwl : wl.length ≤ 1000) (h0 : 0 ≤ line) (h1 : line < 100) (LL : Lines PySem.Challenge.rw_dm0028_06.prog w line (lineText line))
    (Q E : Value → Shared → Prop) (KX : (hz.heap_178 w.params).In s.heap) (T : Top p loose mean mg mb s.heap)
    (hQ : ∀ h' tk (l e2 : Addr) (hd tl : Str) (place : Nat) (t1 t2 t3 : Tok) (n : Nat) (new : List (Addr × Obj)), Grow s.heap h' → BearC s.heap h' e wl l e2 hd tl place t1 t2 t3 n new → Q (.ref l) { s with heap := h', toks := tk }),
    wpAny (model PySem.Challenge.rw_dm0028_06.prog w) (AD 500 1500) (call (.ref 184) [.int 1 tk0, .ref e, .int line lt]) Q E s := by
  w_top off
  k_fill
  intro p loose mean mg mb w s e wl tk0 line lt RL hwl h0 h1 LL Q E KX T hQ
  obtain ⟨hh, g, dr, tk, os⟩ := s
  dsimp only at KX T RL hQ
  w_strict (
  refine wpAny_call ?_
  k_dflt (refine' enter_new (h₀ := hh) (binds := [("kind", .int 1 tk0), ("last", .ref e), ("line", .int line lt)]) (news := []) ?k1 ?k2 KX T.nolimit ?k9 ?k5 ?k6 ?k7 ?k8 ?kB ?c2 ?c3 ?c4 ?c5 ?_; (case k5 => k_is); (case k6 => k_is); (case k7 => exact Nat.le_of_ble_eq_true rfl); (case k8 => first | exact BindsTo.of_eq rfl | exact binds_K KX rfl (by k_is) rfl rfl rfl); (case c5 => decide); (case kB => exact locs rfl); (case c2 => exact rfl); (case c3 => exact rfl); (case c4 => exact rfl); (case k1 => exact fun _ _ e => e); (case k2 => exact Nat.le_refl _); (case k9 => exact List.forall_mem_nil _))
  intro L' h' tk' F' N' l1
  walk_at "mine texts"
  k_steps
  all_goals (
    (with_reducible rename Fr _ _ _ _ => Fz)
    (with_reducible rename News _ _ _ _ => Nz)
    (with_reducible rename lookIn (Str.ofString "message") _ = _ => hmz)
    have hT := str6 h0 h1
    refine hQ _ _ _ _ _ _ 0 _ _ _ _ _ Fz.keep (bear_end (new := _) (C := 79) Nz (by k_mem) (by decide) (by k_mem) (by k_mem) (by k_mem) hmz ?za (.inl rfl) (Nat.le_of_ble_eq_true rfl) (fun p hp => hp) ⟨?zb, ?zc⟩)
    case zb => refine Nat.le_trans (m := _) (by with_reducible (repeat' (first | exact hT | apply sl6)); all_goals exact (Nat.le_of_ble_eq_true (by kernel_rfl) : _ ≤ 60)) (Nat.le_of_ble_eq_true rfl)
    case zc => refine Nat.le_trans (m := _) (by with_reducible (repeat' (first | exact hT | apply sl6)); all_goals exact (Nat.le_of_ble_eq_true (by kernel_rfl) : _ ≤ 60)) (Nat.le_of_ble_eq_true rfl)
    case za =>
      simp only [tjc, tj1, cps6, List.append_assoc]
      first | rw [line_hi h0 h1 (by omega)] | rw [line_lo h0 h1 (by omega)] | skip
      try simp only [List.append_assoc]
      generalize (Str.ofString (toString line)).cps.toList = T
      kernel_rfl))
end
section
theorem lay11 : True := by
  k_with_none
  k_with "ne" => (with_reducible (first | exact ns1 | exact ns2 | exact qlt (by assumption) | exact qgt (by assumption) | exact qne (by assumption) | exact qen (by assumption) | exact rlt (by assumption) | exact rgt (by assumption) | exact rne (by assumption) | exact ren (by assumption) | exact qlt (And.right (by assumption)) | exact qgt (And.right (by assumption)) | exact qne (And.right (by assumption)) | exact qen (And.right (by assumption)) | exact rlt (And.right (by assumption)) | exact rgt (And.right (by assumption)) | exact rne (And.right (by assumption)) | exact ren (And.right (by assumption)) | exact qlt (And.right (And.right (by assumption))) | exact qgt (And.right (And.right (by assumption))) | exact qne (And.right (And.right (by assumption))) | exact qen (And.right (And.right (by assumption))) | exact rlt (And.right (And.right (by assumption))) | exact rgt (And.right (And.right (by assumption))) | exact rne (And.right (And.right (by assumption))) | exact ren (And.right (And.right (by assumption))) | exact qlt (And.right (And.right (And.right (by assumption)))) | exact qgt (And.right (And.right (And.right (by assumption)))) | exact qne (And.right (And.right (And.right (by assumption)))) | exact qen (And.right (And.right (And.right (by assumption)))) | exact rlt (And.right (And.right (And.right (by assumption)))) | exact rgt (And.right (And.right (And.right (by assumption)))) | exact rne (And.right (And.right (And.right (by assumption)))) | exact ren (And.right (And.right (And.right (by assumption)))) | exact qlt (And.right (And.right (And.right (And.right (by assumption))))) | exact qgt (And.right (And.right (And.right (And.right (by assumption))))) | exact qne (And.right (And.right (And.right (And.right (by assumption))))) | exact qen (And.right (And.right (And.right (And.right (by assumption))))) | exact rlt (And.right (And.right (And.right (And.right (by assumption))))) | exact rgt (And.right (And.right (And.right (And.right (by assumption))))) | exact rne (And.right (And.right (And.right (And.right (by assumption))))) | exact ren (And.right (And.right (And.right (And.right (by assumption))))) | exact qlt (And.right (And.right (And.right (And.right (And.right (by assumption)))))) | exact qgt (And.right (And.right (And.right (And.right (And.right (by assumption)))))) | exact qne (And.right (And.right (And.right (And.right (And.right (by assumption)))))) | exact qen (And.right (And.right (And.right (And.right (And.right (by assumption)))))) | exact rlt (And.right (And.right (And.right (And.right (And.right (by assumption)))))) | exact rgt (And.right (And.right (And.right (And.right (And.right (by assumption)))))) | exact rne (And.right (And.right (And.right (And.right (And.right (by assumption)))))) | exact ren (And.right (And.right (And.right (And.right (And.right (by assumption)))))) | exact qlt (And.right (And.right (And.right (And.right (And.right (And.right (by assumption))))))) | exact qgt (And.right (And.right (And.right (And.right (And.right (And.right (by assumption))))))) | exact qne (And.right (And.right (And.right (And.right (And.right (And.right (by assumption))))))) | exact qen (And.right (And.right (And.right (And.right (And.right (And.right (by assumption))))))) | exact rlt (And.right (And.right (And.right (And.right (And.right (And.right (by assumption))))))) | exact rgt (And.right (And.right (And.right (And.right (And.right (And.right (by assumption))))))) | exact rne (And.right (And.right (And.right (And.right (And.right (And.right (by assumption))))))) | exact ren (And.right (And.right (And.right (And.right (And.right (And.right (by assumption))))))) | exact qlt (And.right (And.right (And.right (And.right (And.right (And.right (And.right (by assumption)))))))) | exact qgt (And.right (And.right (And.right (And.right (And.right (And.right (And.right (by assumption)))))))) | exact qne (And.right (And.right (And.right (And.right (And.right (And.right (And.right (by assumption)))))))) | exact qen (And.right (And.right (And.right (And.right (And.right (And.right (And.right (by assumption)))))))) | exact rlt (And.right (And.right (And.right (And.right (And.right (And.right (And.right (by assumption)))))))) | exact rgt (And.right (And.right (And.right (And.right (And.right (And.right (And.right (by assumption)))))))) | exact rne (And.right (And.right (And.right (And.right (And.right (And.right (And.right (by assumption)))))))) | exact ren (And.right (And.right (And.right (And.right (And.right (And.right (And.right (by assumption)))))))) | exact qlt (And.right (And.right (And.right (And.right (And.right (And.right (And.right (And.right (by assumption))))))))) | exact qgt (And.right (And.right (And.right (And.right (And.right (And.right (And.right (And.right (by assumption))))))))) | exact qne (And.right (And.right (And.right (And.right (And.right (And.right (And.right (And.right (by assumption))))))))) | exact qen (And.right (And.right (And.right (And.right (And.right (And.right (And.right (And.right (by assumption))))))))) | exact rlt (And.right (And.right (And.right (And.right (And.right (And.right (And.right (And.right (by assumption))))))))) | exact rgt (And.right (And.right (And.right (And.right (And.right (And.right (And.right (And.right (by assumption))))))))) | exact rne (And.right (And.right (And.right (And.right (And.right (And.right (And.right (And.right (by assumption))))))))) | exact ren (And.right (And.right (And.right (And.right (And.right (And.right (And.right (And.right (by assumption))))))))) | exact qlt (And.right (And.right (And.right (And.right (And.right (And.right (And.right (And.right (And.right (by assumption)))))))))) | exact qgt (And.right (And.right (And.right (And.right (And.right (And.right (And.right (And.right (And.right (by assumption)))))))))) | exact qne (And.right (And.right (And.right (And.right (And.right (And.right (And.right (And.right (And.right (by assumption)))))))))) | exact qen (And.right (And.right (And.right (And.right (And.right (And.right (And.right (And.right (And.right (by assumption)))))))))) | exact rlt (And.right (And.right (And.right (And.right (And.right (And.right (And.right (And.right (And.right (by assumption)))))))))) | exact rgt (And.right (And.right (And.right (And.right (And.right (And.right (And.right (And.right (And.right (by assumption)))))))))) | exact rne (And.right (And.right (And.right (And.right (And.right (And.right (And.right (And.right (And.right (by assumption)))))))))) | exact ren (And.right (And.right (And.right (And.right (And.right (And.right (And.right (And.right (And.right (by assumption)))))))))) | exact qlt (And.right (And.right (And.right (And.right (And.right (And.right (And.right (And.right (And.right (And.right (by assumption))))))))))) | exact qgt (And.right (And.right (And.right (And.right (And.right (And.right (And.right (And.right (And.right (And.right (by assumption))))))))))) | exact qne (And.right (And.right (And.right (And.right (And.right (And.right (And.right (And.right (And.right (And.right (by assumption))))))))))) | exact qen (And.right (And.right (And.right (And.right (And.right (And.right (And.right (And.right (And.right (And.right (by assumption))))))))))) | exact rlt (And.right (And.right (And.right (And.right (And.right (And.right (And.right (And.right (And.right (And.right (by assumption))))))))))) | exact rgt (And.right (And.right (And.right (And.right (And.right (And.right (And.right (And.right (And.right (And.right (by assumption))))))))))) | exact rne (And.right (And.right (And.right (And.right (And.right (And.right (And.right (And.right (And.right (And.right (by assumption))))))))))) | exact ren (And.right (And.right (And.right (And.right (And.right (And.right (And.right (And.right (And.right (And.right (by assumption))))))))))) | exact qlt (And.right (And.right (And.right (And.right (And.right (And.right (And.right (And.right (And.right (And.right (And.right (by assumption)))))))))))) | exact qgt (And.right (And.right (And.right (And.right (And.right (And.right (And.right (And.right (And.right (And.right (And.right (by assumption)))))))))))) | exact qne (And.right (And.right (And.right (And.right (And.right (And.right (And.right (And.right (And.right (And.right (And.right (by assumption)))))))))))) | exact qen (And.right (And.right (And.right (And.right (And.right (And.right (And.right (And.right (And.right (And.right (And.right (by assumption)))))))))))) | exact rlt (And.right (And.right (And.right (And.right (And.right (And.right (And.right (And.right (And.right (And.right (And.right (by assumption)))))))))))) | exact rgt (And.right (And.right (And.right (And.right (And.right (And.right (And.right (And.right (And.right (And.right (And.right (by assumption)))))))))))) | exact rne (And.right (And.right (And.right (And.right (And.right (And.right (And.right (And.right (And.right (And.right (And.right (by assumption)))))))))))) | exact ren (And.right (And.right (And.right (And.right (And.right (And.right (And.right (And.right (And.right (And.right (And.right (by assumption)))))))))))) | exact qlt (And.right (And.right (And.right (And.right (And.right (And.right (And.right (And.right (And.right (And.right (And.right (And.right (by assumption))))))))))))) | exact qgt (And.right (And.right (And.right (And.right (And.right (And.right (And.right (And.right (And.right (And.right (And.right (And.right (by assumption))))))))))))) | exact qne (And.right (And.right (And.right (And.right (And.right (And.right (And.right (And.right (And.right (And.right (And.right (And.right (by assumption))))))))))))) | exact qen (And.right (And.right (And.right (And.right (And.right (And.right (And.right (And.right (And.right (And.right (And.right (And.right (by assumption))))))))))))) | exact rlt (And.right (And.right (And.right (And.right (And.right (And.right (And.right (And.right (And.right (And.right (And.right (And.right (by assumption))))))))))))) | exact rgt (And.right (And.right (And.right (And.right (And.right (And.right (And.right (And.right (And.right (And.right (And.right (And.right (by assumption))))))))))))) | exact rne (And.right (And.right (And.right (And.right (And.right (And.right (And.right (And.right (And.right (And.right (And.right (And.right (by assumption))))))))))))) | exact ren (And.right (And.right (And.right (And.right (And.right (And.right (And.right (And.right (And.right (And.right (And.right (And.right (by assumption))))))))))))) | exact qlt (And.right (And.right (And.right (And.right (And.right (And.right (And.right (And.right (And.right (And.right (And.right (And.right (And.right (by assumption)))))))))))))) | exact qgt (And.right (And.right (And.right (And.right (And.right (And.right (And.right (And.right (And.right (And.right (And.right (And.right (And.right (by assumption)))))))))))))) | exact qne (And.right (And.right (And.right (And.right (And.right (And.right (And.right (And.right (And.right (And.right (And.right (And.right (And.right (by assumption)))))))))))))) | exact qen (And.right (And.right (And.right (And.right (And.right (And.right (And.right (And.right (And.right (And.right (And.right (And.right (And.right (by assumption)))))))))))))) | exact rlt (And.right (And.right (And.right (And.right (And.right (And.right (And.right (And.right (And.right (And.right (And.right (And.right (And.right (by assumption)))))))))))))) | exact rgt (And.right (And.right (And.right (And.right (And.right (And.right (And.right (And.right (And.right (And.right (And.right (And.right (And.right (by assumption)))))))))))))) | exact rne (And.right (And.right (And.right (And.right (And.right (And.right (And.right (And.right (And.right (And.right (And.right (And.right (And.right (by assumption)))))))))))))) | exact ren (And.right (And.right (And.right (And.right (And.right (And.right (And.right (And.right (And.right (And.right (And.right (And.right (And.right (by assumption)))))))))))))) | exact qlt (And.right (And.right (And.right (And.right (And.right (And.right (And.right (And.right (And.right (And.right (And.right (And.right (And.right (And.right (by assumption))))))))))))))) | exact qgt (And.right (And.right (And.right (And.right (And.right (And.right (And.right (And.right (And.right (And.right (And.right (And.right (And.right (And.right (by assumption))))))))))))))) | exact qne (And.right (And.right (And.right (And.right (And.right (And.right (And.right (And.right (And.right (And.right (And.right (And.right (And.right (And.right (by assumption))))))))))))))) | exact qen (And.right (And.right (And.right (And.right (And.right (And.right (And.right (And.right (And.right (And.right (And.right (And.right (And.right (And.right (by assumption))))))))))))))) | exact rlt (And.right (And.right (And.right (And.right (And.right (And.right (And.right (And.right (And.right (And.right (And.right (And.right (And.right (And.right (by assumption))))))))))))))) | exact rgt (And.right (And.right (And.right (And.right (And.right (And.right (And.right (And.right (And.right (And.right (And.right (And.right (And.right (And.right (by assumption))))))))))))))) | exact rne (And.right (And.right (And.right (And.right (And.right (And.right (And.right (And.right (And.right (And.right (And.right (And.right (And.right (And.right (by assumption))))))))))))))) | exact ren (And.right (And.right (And.right (And.right (And.right (And.right (And.right (And.right (And.right (And.right (And.right (And.right (And.right (And.right (by assumption))))))))))))))) | exact qlt (And.right (And.right (And.right (And.right (And.right (And.right (And.right (And.right (And.right (And.right (And.right (And.right (And.right (And.right (And.right (by assumption)))))))))))))))) | exact qgt (And.right (And.right (And.right (And.right (And.right (And.right (And.right (And.right (And.right (And.right (And.right (And.right (And.right (And.right (And.right (by assumption)))))))))))))))) | exact qne (And.right (And.right (And.right (And.right (And.right (And.right (And.right (And.right (And.right (And.right (And.right (And.right (And.right (And.right (And.right (by assumption)))))))))))))))) | exact qen (And.right (And.right (And.right (And.right (And.right (And.right (And.right (And.right (And.right (And.right (And.right (And.right (And.right (And.right (And.right (by assumption)))))))))))))))) | exact rlt (And.right (And.right (And.right (And.right (And.right (And.right (And.right (And.right (And.right (And.right (And.right (And.right (And.right (And.right (And.right (by assumption)))))))))))))))) | exact rgt (And.right (And.right (And.right (And.right (And.right (And.right (And.right (And.right (And.right (And.right (And.right (And.right (And.right (And.right (And.right (by assumption)))))))))))))))) | exact rne (And.right (And.right (And.right (And.right (And.right (And.right (And.right (And.right (And.right (And.right (And.right (And.right (And.right (And.right (And.right (by assumption)))))))))))))))) | exact ren (And.right (And.right (And.right (And.right (And.right (And.right (And.right (And.right (And.right (And.right (And.right (And.right (And.right (And.right (And.right (by assumption))))))))))))))))))
  trivial
theorem lay12 : True := by
  k_with "mine texts" => ((try dsimp only [← sx0, ← sx1, ← sx2, ← sx3, ← sx4, ← sx5, ← sx6, ← sx7, ← sx8, ← sx9, ← sx10, ← sx11, ← sx12, ← sx13, ← sx14, ← sx15, ← sx16, ← sx17, ← sx18, ← sx19, ← sx20, ← sx21, ← sx22, ← sx23, ← sx24, ← sx25, ← sx26, ← sx27, ← sx28, ← sx29, ← sx30, ← sx31, ← sx32, ← sx33, ← sx34, ← sx35, ← sx36, ← sx37, ← sx38, ← sx39, ← sx40, ← sx41, ← sx42, ← sx43, ← sx44, ← sx45, ← sx46, ← sx47, ← sx48, ← sx49, ← sx50, ← sx51, ← sx52, ← sx53, ← sx54, ← sx55, ← sx56, ← sx57, ← sx58, ← sx59, ← sx60, ← sx61, ← sx62, ← sx63, ← sx64, ← sx65, ← sx66, ← sx67, ← sx68, ← sx69, ← sx70, ← sx71, ← sx72, ← sx73, ← sx74, ← sx75, ← sx76, ← sx77, ← sx78, ← sx79, ← sx80, ← sx81, ← sx82, ← sx83, ← sx84, ← sx85, ← sx86, ← sx87, ← sx88, ← sx89, ← sx90, ← sx91, ← sx92, ← sx93, ← sx94, ← sx95, ← sx96, ← sx97, ← sx98, ← sx99, ← sx100, ← sx101, ← sx102, ← sx103, ← sx104, ← sx105, ← sx106, ← sx107, ← sx108, ← sx109, ← sx110, ← sx111, ← sx112, ← sx113, ← sx114]))
  k_with "mine drop" => (first | (refine' Drop.head ?a; (case a => k_all)) | (refine' Drop.tail ?a ?b; (case a => k_ne); (case b => walk_at "mine drop")))
  k_with "setAttr ref" => ((k_here; k_dflt (first | (refine' exc_set0 ?k1 ?k2 ?k3 ?k4 ?k5 ?k6 ?k7 ?k8 ?k9 ?_; (case k1 => k_asm); (case k2 => k_asm); (case k3 => k_asm); (case k4 => k_mem); (case k5 => k_is); (case k6 => kernel_rfl); (case k7 => k_is); (case k8 => k_is); (case k9 => intro zqd; k_upd); k_whole; intro zqdp zqhp zqFp zqNp zql1; (try k_lt zql1)) | (refine' exc_set_args ?k1 ?k2 ?k3 ?k4 ?k5 ?k6 ?k7 ?k8 ?k9 ?k10 ?_; (case k1 => k_asm); (case k2 => k_asm); (case k3 => k_asm); (case k4 => first | (refine' InstAt.of_exc ?N ?h1 ?h2; (case N => k_asm); (case h1 => k_mem); (case h2 => k_mem)) | (refine' InstAt.of_exc0 ?N ?h1; (case N => k_asm); (case h1 => k_mem))); (case k5 => exact isTup_of (by k_asm) (by k_mem)); (case k6 => k_is); (case k7 => kernel_rfl); (case k8 => k_is); (case k9 => k_is); (case k10 => k_upd); k_whole; intro zqhp zqFp zqNp) | (refine' exc_set ?k1 ?k2 ?k3 ?k4 ?k5 ?k6 ?k7 ?k8 ?k9 ?k10 ?k11 ?k12 ?_; (case k1 => k_asm); (case k2 => k_asm); (case k3 => k_asm); (case k4 => first | (refine' InstAt.of_exc ?N ?h1 ?h2; (case N => k_asm); (case h1 => k_mem); (case h2 => k_mem)) | (refine' InstAt.of_exc0 ?N ?h1; (case N => k_asm); (case h1 => k_mem))); (case k5 => k_is); (case k6 => kernel_rfl); (case k7 => k_is); (case k8 => k_is); (case k9 => k_get); (case k10 => k_put); (case k11 => k_upd); (case k12 => exact Nat.le_of_ble_eq_true rfl); k_whole; intro zqhp zqFp zqNp))))
  k_with "call builtin:Exception.__init__" => ((k_here; k_dflt (refine' exc_init_call ?k1 ?k2 ?k3 ?k4 ?k5 ?k6 ?_; (case k1 => k_asm); (case k2 => k_asm); (case k3 => k_asm); (case k4 => first | (refine' InstAt.of_exc ?N ?h1 ?h2; (case N => k_asm); (case h1 => k_mem); (case h2 => k_mem)) | (refine' InstAt.of_exc0 ?N ?h1; (case N => k_asm); (case h1 => k_mem))); (case k5 => k_is); (case k6 => intro zqt; k_upd); k_whole; intro zqtp zqhp zqFp zqNp zql1; (try k_lt zql1))))
  k_with "call builtin:repr" => ((k_here; k_dflt (refine' repr_use ?k1 ?k2 ?k3 ?k4 ?k5 ?k6 ?k7 ?_; (case k1 => assumption); (case k2 => k_asm); (case k3 => k_asm); (case k4 => exact rfl); (case k5 => exact rfl); (case k6 => exact Nat.le_of_ble_eq_true rfl); (case k7 => exact Nat.le_of_ble_eq_true rfl); k_whole; intro zqhp zqup zqtkp zqFp zqNp)))
  k_with "BackIn" => ((k_dflt (refine' back_ ?k1 ?k2 ?k3 ?_; (case k1 => k_asm); (case k2 => k_asm); (case k3 => walk_at "mine drop"); k_whole; intro zqFp zqNp; (try dsimp only))))
  k_with "call ref" => ((k_here; k_dflt (refine wpAny_call ?_; refine' enter_in ?k1 ?k2 ?k3 ?k4 ?k5 ?k6 ?k7 ?k8 ?kB ?c2 ?c3 ?c4 ?c5 ?_; (case k1 => k_asm); (case k2 => k_asm); (case k3 => k_asm); (case k4 => exact Top.nolimit (by assumption)); (case k5 => k_is); (case k6 => k_is); (case k7 => exact Nat.le_of_ble_eq_true rfl); (case k8 => first | ((with_reducible show BindsTo _ _ ⟨[_], []⟩ _); first | exact BindsTo.of_eq (binds := [(_, _)]) rfl | exact binds_K (binds := [(_, _)]) (by k_in) rfl (by k_is) rfl rfl rfl) | ((with_reducible show BindsTo _ _ ⟨[_, _], []⟩ _); first | exact BindsTo.of_eq (binds := [(_, _), (_, _)]) rfl | exact binds_K (binds := [(_, _), (_, _)]) (by k_in) rfl (by k_is) rfl rfl rfl) | ((with_reducible show BindsTo _ _ ⟨[_, _, _], []⟩ _); first | exact BindsTo.of_eq (binds := [(_, _), (_, _), (_, _)]) rfl | exact binds_K (binds := [(_, _), (_, _), (_, _)]) (by k_in) rfl (by k_is) rfl rfl rfl) | ((with_reducible show BindsTo _ _ ⟨[_, _, _, _], []⟩ _); first | exact BindsTo.of_eq (binds := [(_, _), (_, _), (_, _), (_, _)]) rfl | exact binds_K (binds := [(_, _), (_, _), (_, _), (_, _)]) (by k_in) rfl (by k_is) rfl rfl rfl) | ((with_reducible show BindsTo _ _ ⟨[_, _, _, _, _], []⟩ _); first | exact BindsTo.of_eq (binds := [(_, _), (_, _), (_, _), (_, _), (_, _)]) rfl | exact binds_K (binds := [(_, _), (_, _), (_, _), (_, _), (_, _)]) (by k_in) rfl (by k_is) rfl rfl rfl)); (case c5 => decide); (case kB => exact locs rfl); (case c2 => exact rfl); (case c3 => exact rfl); (case c4 => exact rfl); k_whole; intro zqoLp zqLp zqhp zqtkp zqFp zqNp zql1 zqn1; (try k_lt zql1); (try (replace zqn1 := allNe_of zqn1; simp only [AllNe, and_true] at zqn1)); (try dsimp only); walk_at "mine texts")))
  k_with "call builtin:str.join" => ((k_here; (with_reducible show wpAny _ _ (call (Value.builtin "str.join") [Value.str _ _, Value.ref _]) _ _ _); k_dflt (refine join_listC (by is_list) (by repeat constructor) (by decide) (by (simp only [List.map_cons, List.map_nil, List.sum_cons, List.sum_nil, List.length_cons, List.length_nil]; omega)) ?_); intro zqtp zqkp))
  k_with "getMethod type:Exception" => ((k_here; refine' method_type ?F ?X ?m (by decide +kernel) ?e ?h ?_; (case F => k_asm); (case X => k_asm); (case m => exact meta_Exception); (case e => k_dflt k_is); (case h => k_handed)))
  k_with "compareOp IsNot" => ((k_here; k_dflt (refine isNot_none (by assumption) ?_)))
  k_with "call builtin:str.format" => ((k_here; k_dflt (refine' line_use ?k1 ?k2 ?k3 ?k4 ?k5 ?k6 ?k7 ?_; (case k1 => assumption); (case k2 => k_asm); (case k3 => k_asm); (case k4 => exact rfl); (case k5 => exact rfl); (case k6 => exact Nat.le_of_ble_eq_true rfl); (case k7 => exact Nat.le_of_ble_eq_true rfl); k_whole; intro zqhp zqup zqtkp zqFp zqNp)))
  k_with "call builtin:str.format" => ((k_here; (with_reducible show wpAny _ _ (call (Value.builtin "str.format") [Value.str _ _, _, _, _, _]) _ _ _); k_dflt (refine' fmt_use ?k1 ?k2 ?k3 ?k4 ?k5 ?_; (case k1 => k_asm); (case k2 => k_asm); (case k3 => exact ⟨rfl, rfl, Nat.le_of_ble_eq_true rfl, Nat.le_of_ble_eq_true rfl⟩); (case k4 => exact args_5 _ _ _ _ _); (case k5 => walk_at "mine fmt")); k_whole; intro zqhp zqup zqtkp zqFp zqNp))
  k_with "pyReprObj" => ((k_here; k_dflt (refine' reprObj_use ?k1 ?k2 ?k3 ?k4 ?k5 ?k6 ?k7 ?_; (case k1 => assumption); (case k2 => k_asm); (case k3 => k_asm); (case k4 => exact rfl); (case k5 => exact rfl); (case k6 => exact Nat.le_of_ble_eq_true rfl); (case k7 => exact Nat.le_of_ble_eq_true rfl); k_whole; intro zqhp zqup zqtkp zqFp zqNp)))
  k_with "call ref" => ((k_here; (with_reducible show wpAny _ _ (call (Value.ref 79) [_, _, Value.int _ _]) _ _ _); k_dflt (refine' err_use (fun Q E hQ => conDSi _ _ _ _ (by intro zqh; cases zqh) _ _ _ (by assumption) _ (by first | exact rep_str (by decide +kernel) | exact Rep.mono (by assumption) (Fr.keep (by k_asm)) | exact rep_two (by k_asm) (by k_mem) (by assumption) (by assumption) (Fr.keep (by k_asm))) _ (by first | exact rep_str (by decide +kernel) | exact Rep.mono (by assumption) (Fr.keep (by k_asm)) | exact rep_two (by k_asm) (by k_mem) (by assumption) (by assumption) (Fr.keep (by k_asm))) Q E (by k_in) (Top.keeps (by assumption) (Fr.keep (by k_asm))) hQ) ?k1 ?k2 ?k3 ?k4 ?k5 ?k6 ?_; (case k1 => k_asm); (case k2 => k_asm); (case k3 => exact rfl); (case k4 => exact rfl); (case k5 => exact Nat.le_of_ble_eq_true rfl); (case k6 => exact Nat.le_of_ble_eq_true rfl); k_whole; intro zqhp zqtkp zqep zqdp zqtap zqodp zqup zqFp zqNp zqn1 zqn2 zqn3 zqhm zqhf; (try simp only [AllNe, and_true] at zqn1 zqn2 zqn3); (have hl0 := zqhf _ (.head _)); (have hl1 := zqhf _ (.tail _ (.head _))); (have hl2 := zqhf _ (.tail _ (.tail _ (.head _)))); (dsimp only at hl0 hl1 hl2); clear zqhf)))
  k_with "call ref" => ((k_here; (with_reducible show wpAny _ _ (call (Value.ref 99) [_, _, _, Value.int _ _]) _ _ _); k_dflt (refine' err_use (fun Q E hQ => conDOi _ _ _ _ _ (by intro zqh; cases zqh) _ _ _ (by assumption) _ (by first | exact rep_str (by decide +kernel) | exact Rep.mono (by assumption) (Fr.keep (by k_asm)) | exact rep_two (by k_asm) (by k_mem) (by assumption) (by assumption) (Fr.keep (by k_asm))) _ (by first | exact rep_str (by decide +kernel) | exact Rep.mono (by assumption) (Fr.keep (by k_asm)) | exact rep_two (by k_asm) (by k_mem) (by assumption) (by assumption) (Fr.keep (by k_asm))) _ (by first | exact rep_str (by decide +kernel) | exact Rep.mono (by assumption) (Fr.keep (by k_asm)) | exact rep_two (by k_asm) (by k_mem) (by assumption) (by assumption) (Fr.keep (by k_asm))) Q E (by k_in) (Top.keeps (by assumption) (Fr.keep (by k_asm))) hQ) ?k1 ?k2 ?k3 ?k4 ?k5 ?k6 ?_; (case k1 => k_asm); (case k2 => k_asm); (case k3 => exact rfl); (case k4 => exact rfl); (case k5 => exact Nat.le_of_ble_eq_true rfl); (case k6 => exact Nat.le_of_ble_eq_true rfl); k_whole; intro zqhp zqtkp zqep zqdp zqtap zqodp zqup zqFp zqNp zqn1 zqn2 zqn3 zqhm zqhf; (try simp only [AllNe, and_true] at zqn1 zqn2 zqn3); (have hl0 := zqhf _ (.head _)); (have hl1 := zqhf _ (.tail _ (.head _))); (have hl2 := zqhf _ (.tail _ (.tail _ (.head _)))); (have hl3 := zqhf _ (.tail _ (.tail _ (.tail _ (.head _))))); (dsimp only at hl0 hl1 hl2 hl3); clear zqhf)))
  k_with "call ref" => ((k_here; (with_reducible show wpAny _ _ (call (Value.ref 99) [_, _, _]) _ _ _); k_dflt (refine' err_use (fun Q E hQ => conDOo _ _ _ _ _ (by intro zqh; cases zqh) _ (by first | exact rep_str (by decide +kernel) | exact Rep.mono (by assumption) (Fr.keep (by k_asm)) | exact rep_two (by k_asm) (by k_mem) (by assumption) (by assumption) (Fr.keep (by k_asm))) _ (by first | exact rep_str (by decide +kernel) | exact Rep.mono (by assumption) (Fr.keep (by k_asm)) | exact rep_two (by k_asm) (by k_mem) (by assumption) (by assumption) (Fr.keep (by k_asm))) _ (by first | exact rep_str (by decide +kernel) | exact Rep.mono (by assumption) (Fr.keep (by k_asm)) | exact rep_two (by k_asm) (by k_mem) (by assumption) (by assumption) (Fr.keep (by k_asm))) Q E (by k_in) (Top.keeps (by assumption) (Fr.keep (by k_asm))) hQ) ?k1 ?k2 ?k3 ?k4 ?k5 ?k6 ?_; (case k1 => k_asm); (case k2 => k_asm); (case k3 => exact rfl); (case k4 => exact rfl); (case k5 => exact Nat.le_of_ble_eq_true rfl); (case k6 => exact Nat.le_of_ble_eq_true rfl); k_whole; intro zqhp zqtkp zqep zqdp zqtap zqodp zqup zqFp zqNp zqn1 zqn2 zqn3 zqhm zqhf; (try simp only [AllNe, and_true] at zqn1 zqn2 zqn3); (have hl0 := zqhf _ (.head _)); (have hl1 := zqhf _ (.tail _ (.head _))); (have hl2 := zqhf _ (.tail _ (.tail _ (.head _)))); (have hl3 := zqhf _ (.tail _ (.tail _ (.tail _ (.head _))))); (dsimp only at hl0 hl1 hl2 hl3); clear zqhf)))
  k_with "getAttr ref" => ((k_here; k_dflt (refine' gets_led6 (f := 36) ?k1 ?k2 ?k3 ?k4 ?k5 ?k6 ?k7 ?k8 ?k9 ?_; (case k1 => k_asm); (case k2 => k_asm); (case k3 => k_asm); (case k4 => k_mem); (case k5 => k_mem); (case k6 => kernel_rfl); (case k8 => assumption); (case k7 => kernel_rfl); (case k9 => exact rfl))))
  trivial
theorem dup2 : ∀ {p : Program} {loose : List Str} {mean : ExcName → Option Value} {mg mb : Str → Option Value} (w : World) (s : Shared) (e : Addr) (wl : Str) (tk0 : Tok) (line : Int) (lt : Tok) (RL : Rep PySem.Challenge.rw_dm0028_06.prog w s.heap (.ref e) wl) (hwl : wl.length ≤ 1000) (h0 : 0 ≤ line) (h1 : line < 100) (LL : Lines PySem.Challenge.rw_dm0028_06.prog w line (lineText line))
    (Q E : Value → Shared → Prop) (KX : (hz.heap_178 w.params).In s.heap) (T : Top p loose mean mg mb s.heap)
    (hQ : ∀ h' tk (l e2 : Addr) (hd tl : Str) (place : Nat) (t1 t2 t3 : Tok) (n : Nat) (new : List (Addr × Obj)), Grow s.heap h' → BearC s.heap h' e wl l e2 hd tl place t1 t2 t3 n new → Q (.ref l) { s with heap := h', toks := tk }),
    wpAny (model PySem.Challenge.rw_dm0028_06.prog w) (AD 500 1500) (call (.ref 184) [.int 2 tk0, .ref e, .int line lt]) Q E s := by
  w_top off
  k_fill
  intro p loose mean mg mb w s e wl tk0 line lt RL hwl h0 h1 LL Q E KX T hQ
  obtain ⟨hh, g, dr, tk, os⟩ := s
  dsimp only at KX T RL hQ
  w_strict (
  refine wpAny_call ?_
  k_dflt (refine' enter_new (h₀ := hh) (binds := [("kind", .int 2 tk0), ("last", .ref e), ("line", .int line lt)]) (news := []) ?k1 ?k2 KX T.nolimit ?k9 ?k5 ?k6 ?k7 ?k8 ?kB ?c2 ?c3 ?c4 ?c5 ?_; (case k5 => k_is); (case k6 => k_is); (case k7 => exact Nat.le_of_ble_eq_true rfl); (case k8 => first | exact BindsTo.of_eq rfl | exact binds_K KX rfl (by k_is) rfl rfl rfl); (case c5 => decide); (case kB => exact locs rfl); (case c2 => exact rfl); (case c3 => exact rfl); (case c4 => exact rfl); (case k1 => exact fun _ _ e => e); (case k2 => exact Nat.le_refl _); (case k9 => exact List.forall_mem_nil _))
  intro L' h' tk' F' N' l1
  walk_at "mine texts"
  k_steps
  all_goals (
    (with_reducible rename Fr _ _ _ _ => Fz)
    (with_reducible rename News _ _ _ _ => Nz)
    (with_reducible rename lookIn (Str.ofString "message") _ = _ => hmz)
    have hT := str6 h0 h1
    refine hQ _ _ _ _ _ _ 0 _ _ _ _ _ Fz.keep (bear_end (new := _) (C := 99) Nz (by k_mem) (by decide) (by k_mem) (by k_mem) (by k_mem) hmz ?za (.inl rfl) (Nat.le_of_ble_eq_true rfl) (fun p hp => hp) ⟨?zb, ?zc⟩)
    case zb => refine Nat.le_trans (m := _) (by with_reducible (repeat' (first | exact hT | apply sl6)); all_goals exact (Nat.le_of_ble_eq_true (by kernel_rfl) : _ ≤ 60)) (Nat.le_of_ble_eq_true rfl)
    case zc => refine Nat.le_trans (m := _) (by with_reducible (repeat' (first | exact hT | apply sl6)); all_goals exact (Nat.le_of_ble_eq_true (by kernel_rfl) : _ ≤ 60)) (Nat.le_of_ble_eq_true rfl)
    case za =>
      simp only [tjc, tj1, cps6, List.append_assoc]
      first | rw [line_hi h0 h1 (by omega)] | rw [line_lo h0 h1 (by omega)] | skip
      try simp only [List.append_assoc]
      generalize (Str.ofString (toString line)).cps.toList = T
      kernel_rfl))
theorem dup3 : ∀ {p : Program} {loose : List Str} {mean : ExcName → Option Value} {mg mb : Str → Option Value} (w : World) (s : Shared) (e : Addr) (wl : Str) (tk0 : Tok) (line : Int) (lt : Tok) (RL : Rep PySem.Challenge.rw_dm0028_06.prog w s.heap (.ref e) wl) (hwl : wl.length ≤ 1000) (h0 : 0 ≤ line) (h1 : line < 100) (LL : Lines PySem.Challenge.rw_dm0028_06.prog w line (lineText line))
    (Q E : Value → Shared → Prop) (KX : (hz.heap_178 w.params).In s.heap) (T : Top p loose mean mg mb s.heap)
    (hQ : ∀ h' tk (l e2 : Addr) (hd tl : Str) (place : Nat) (t1 t2 t3 : Tok) (n : Nat) (new : List (Addr × Obj)), Grow s.heap h' → BearC s.heap h' e wl l e2 hd tl place t1 t2 t3 n new → Q (.ref l) { s with heap := h', toks := tk }),
    wpAny (model PySem.Challenge.rw_dm0028_06.prog w) (AD 500 1500) (call (.ref 184) [.int 3 tk0, .ref e, .int line lt]) Q E s := by
  w_top off
  k_fill
  intro p loose mean mg mb w s e wl tk0 line lt RL hwl h0 h1 LL Q E KX T hQ
  obtain ⟨hh, g, dr, tk, os⟩ := s
  dsimp only at KX T RL hQ
  w_strict (
  refine wpAny_call ?_
  k_dflt (refine' enter_new (h₀ := hh) (binds := [("kind", .int 3 tk0), ("last", .ref e), ("line", .int line lt)]) (news := []) ?k1 ?k2 KX T.nolimit ?k9 ?k5 ?k6 ?k7 ?k8 ?kB ?c2 ?c3 ?c4 ?c5 ?_; (case k5 => k_is); (case k6 => k_is); (case k7 => exact Nat.le_of_ble_eq_true rfl); (case k8 => first | exact BindsTo.of_eq rfl | exact binds_K KX rfl (by k_is) rfl rfl rfl); (case c5 => decide); (case kB => exact locs rfl); (case c2 => exact rfl); (case c3 => exact rfl); (case c4 => exact rfl); (case k1 => exact fun _ _ e => e); (case k2 => exact Nat.le_refl _); (case k9 => exact List.forall_mem_nil _))
  intro L' h' tk' F' N' l1
  walk_at "mine texts"
  k_steps
  all_goals (
    (with_reducible rename Fr _ _ _ _ => Fz)
    (with_reducible rename News _ _ _ _ => Nz)
    (with_reducible rename lookIn (Str.ofString "message") _ = _ => hmz)
    have hT := str6 h0 h1
    refine hQ _ _ _ _ _ _ 1 _ _ _ _ _ Fz.keep (bear_end (new := _) (C := 99) Nz (by k_mem) (by decide) (by k_mem) (by k_mem) (by k_mem) hmz ?za (.inl rfl) (Nat.le_of_ble_eq_true rfl) (fun p hp => hp) ⟨?zb, ?zc⟩)
    case zb => refine Nat.le_trans (m := _) (by with_reducible (repeat' (first | exact hT | apply sl6)); all_goals exact (Nat.le_of_ble_eq_true (by kernel_rfl) : _ ≤ 60)) (Nat.le_of_ble_eq_true rfl)
    case zc => refine Nat.le_trans (m := _) (by with_reducible (repeat' (first | exact hT | apply sl6)); all_goals exact (Nat.le_of_ble_eq_true (by kernel_rfl) : _ ≤ 60)) (Nat.le_of_ble_eq_true rfl)
    case za =>
      simp only [tjc, tj1, cps6, List.append_assoc]
      first | rw [line_hi h0 h1 (by omega)] | rw [line_lo h0 h1 (by omega)] | skip
      try simp only [List.append_assoc]
      generalize (Str.ofString (toString line)).cps.toList = T
      kernel_rfl))
end
section
theorem lay13 : True := by
  k_with_none
  k_with "ne" => (with_reducible (first | exact ns1 | exact ns2 | exact qlt (by assumption) | exact qgt (by assumption) | exact qne (by assumption) | exact qen (by assumption) | exact rlt (by assumption) | exact rgt (by assumption) | exact rne (by assumption) | exact ren (by assumption) | exact qlt (And.right (by assumption)) | exact qgt (And.right (by assumption)) | exact qne (And.right (by assumption)) | exact qen (And.right (by assumption)) | exact rlt (And.right (by assumption)) | exact rgt (And.right (by assumption)) | exact rne (And.right (by assumption)) | exact ren (And.right (by assumption)) | exact qlt (And.right (And.right (by assumption))) | exact qgt (And.right (And.right (by assumption))) | exact qne (And.right (And.right (by assumption))) | exact qen (And.right (And.right (by assumption))) | exact rlt (And.right (And.right (by assumption))) | exact rgt (And.right (And.right (by assumption))) | exact rne (And.right (And.right (by assumption))) | exact ren (And.right (And.right (by assumption))) | exact qlt (And.right (And.right (And.right (by assumption)))) | exact qgt (And.right (And.right (And.right (by assumption)))) | exact qne (And.right (And.right (And.right (by assumption)))) | exact qen (And.right (And.right (And.right (by assumption)))) | exact rlt (And.right (And.right (And.right (by assumption)))) | exact rgt (And.right (And.right (And.right (by assumption)))) | exact rne (And.right (And.right (And.right (by assumption)))) | exact ren (And.right (And.right (And.right (by assumption)))) | exact qlt (And.right (And.right (And.right (And.right (by assumption))))) | exact qgt (And.right (And.right (And.right (And.right (by assumption))))) | exact qne (And.right (And.right (And.right (And.right (by assumption))))) | exact qen (And.right (And.right (And.right (And.right (by assumption))))) | exact rlt (And.right (And.right (And.right (And.right (by assumption))))) | exact rgt (And.right (And.right (And.right (And.right (by assumption))))) | exact rne (And.right (And.right (And.right (And.right (by assumption))))) | exact ren (And.right (And.right (And.right (And.right (by assumption))))) | exact qlt (And.right (And.right (And.right (And.right (And.right (by assumption)))))) | exact qgt (And.right (And.right (And.right (And.right (And.right (by assumption)))))) | exact qne (And.right (And.right (And.right (And.right (And.right (by assumption)))))) | exact qen (And.right (And.right (And.right (And.right (And.right (by assumption)))))) | exact rlt (And.right (And.right (And.right (And.right (And.right (by assumption)))))) | exact rgt (And.right (And.right (And.right (And.right (And.right (by assumption)))))) | exact rne (And.right (And.right (And.right (And.right (And.right (by assumption)))))) | exact ren (And.right (And.right (And.right (And.right (And.right (by assumption)))))) | exact qlt (And.right (And.right (And.right (And.right (And.right (And.right (by assumption))))))) | exact qgt (And.right (And.right (And.right (And.right (And.right (And.right (by assumption))))))) | exact qne (And.right (And.right (And.right (And.right (And.right (And.right (by assumption))))))) | exact qen (And.right (And.right (And.right (And.right (And.right (And.right (by assumption))))))) | exact rlt (And.right (And.right (And.right (And.right (And.right (And.right (by assumption))))))) | exact rgt (And.right (And.right (And.right (And.right (And.right (And.right (by assumption))))))) | exact rne (And.right (And.right (And.right (And.right (And.right (And.right (by assumption))))))) | exact ren (And.right (And.right (And.right (And.right (And.right (And.right (by assumption))))))) | exact qlt (And.right (And.right (And.right (And.right (And.right (And.right (And.right (by assumption)))))))) | exact qgt (And.right (And.right (And.right (And.right (And.right (And.right (And.right (by assumption)))))))) | exact qne (And.right (And.right (And.right (And.right (And.right (And.right (And.right (by assumption)))))))) | exact qen (And.right (And.right (And.right (And.right (And.right (And.right (And.right (by assumption)))))))) | exact rlt (And.right (And.right (And.right (And.right (And.right (And.right (And.right (by assumption)))))))) | exact rgt (And.right (And.right (And.right (And.right (And.right (And.right (And.right (by assumption)))))))) | exact rne (And.right (And.right (And.right (And.right (And.right (And.right (And.right (by assumption)))))))) | exact ren (And.right (And.right (And.right (And.right (And.right (And.right (And.right (by assumption)))))))) | exact qlt (And.right (And.right (And.right (And.right (And.right (And.right (And.right (And.right (by assumption))))))))) | exact qgt (And.right (And.right (And.right (And.right (And.right (And.right (And.right (And.right (by assumption))))))))) | exact qne (And.right (And.right (And.right (And.right (And.right (And.right (And.right (And.right (by assumption))))))))) | exact qen (And.right (And.right (And.right (And.right (And.right (And.right (And.right (And.right (by assumption))))))))) | exact rlt (And.right (And.right (And.right (And.right (And.right (And.right (And.right (And.right (by assumption))))))))) | exact rgt (And.right (And.right (And.right (And.right (And.right (And.right (And.right (And.right (by assumption))))))))) | exact rne (And.right (And.right (And.right (And.right (And.right (And.right (And.right (And.right (by assumption))))))))) | exact ren (And.right (And.right (And.right (And.right (And.right (And.right (And.right (And.right (by assumption))))))))) | exact qlt (And.right (And.right (And.right (And.right (And.right (And.right (And.right (And.right (And.right (by assumption)))))))))) | exact qgt (And.right (And.right (And.right (And.right (And.right (And.right (And.right (And.right (And.right (by assumption)))))))))) | exact qne (And.right (And.right (And.right (And.right (And.right (And.right (And.right (And.right (And.right (by assumption)))))))))) | exact qen (And.right (And.right (And.right (And.right (And.right (And.right (And.right (And.right (And.right (by assumption)))))))))) | exact rlt (And.right (And.right (And.right (And.right (And.right (And.right (And.right (And.right (And.right (by assumption)))))))))) | exact rgt (And.right (And.right (And.right (And.right (And.right (And.right (And.right (And.right (And.right (by assumption)))))))))) | exact rne (And.right (And.right (And.right (And.right (And.right (And.right (And.right (And.right (And.right (by assumption)))))))))) | exact ren (And.right (And.right (And.right (And.right (And.right (And.right (And.right (And.right (And.right (by assumption)))))))))) | exact qlt (And.right (And.right (And.right (And.right (And.right (And.right (And.right (And.right (And.right (And.right (by assumption))))))))))) | exact qgt (And.right (And.right (And.right (And.right (And.right (And.right (And.right (And.right (And.right (And.right (by assumption))))))))))) | exact qne (And.right (And.right (And.right (And.right (And.right (And.right (And.right (And.right (And.right (And.right (by assumption))))))))))) | exact qen (And.right (And.right (And.right (And.right (And.right (And.right (And.right (And.right (And.right (And.right (by assumption))))))))))) | exact rlt (And.right (And.right (And.right (And.right (And.right (And.right (And.right (And.right (And.right (And.right (by assumption))))))))))) | exact rgt (And.right (And.right (And.right (And.right (And.right (And.right (And.right (And.right (And.right (And.right (by assumption))))))))))) | exact rne (And.right (And.right (And.right (And.right (And.right (And.right (And.right (And.right (And.right (And.right (by assumption))))))))))) | exact ren (And.right (And.right (And.right (And.right (And.right (And.right (And.right (And.right (And.right (And.right (by assumption))))))))))) | exact qlt (And.right (And.right (And.right (And.right (And.right (And.right (And.right (And.right (And.right (And.right (And.right (by assumption)))))))))))) | exact qgt (And.right (And.right (And.right (And.right (And.right (And.right (And.right (And.right (And.right (And.right (And.right (by assumption)))))))))))) | exact qne (And.right (And.right (And.right (And.right (And.right (And.right (And.right (And.right (And.right (And.right (And.right (by assumption)))))))))))) | exact qen (And.right (And.right (And.right (And.right (And.right (And.right (And.right (And.right (And.right (And.right (And.right (by assumption)))))))))))) | exact rlt (And.right (And.right (And.right (And.right (And.right (And.right (And.right (And.right (And.right (And.right (And.right (by assumption)))))))))))) | exact rgt (And.right (And.right (And.right (And.right (And.right (And.right (And.right (And.right (And.right (And.right (And.right (by assumption)))))))))))) | exact rne (And.right (And.right (And.right (And.right (And.right (And.right (And.right (And.right (And.right (And.right (And.right (by assumption)))))))))))) | exact ren (And.right (And.right (And.right (And.right (And.right (And.right (And.right (And.right (And.right (And.right (And.right (by assumption)))))))))))) | exact qlt (And.right (And.right (And.right (And.right (And.right (And.right (And.right (And.right (And.right (And.right (And.right (And.right (by assumption))))))))))))) | exact qgt (And.right (And.right (And.right (And.right (And.right (And.right (And.right (And.right (And.right (And.right (And.right (And.right (by assumption))))))))))))) | exact qne (And.right (And.right (And.right (And.right (And.right (And.right (And.right (And.right (And.right (And.right (And.right (And.right (by assumption))))))))))))) | exact qen (And.right (And.right (And.right (And.right (And.right (And.right (And.right (And.right (And.right (And.right (And.right (And.right (by assumption))))))))))))) | exact rlt (And.right (And.right (And.right (And.right (And.right (And.right (And.right (And.right (And.right (And.right (And.right (And.right (by assumption))))))))))))) | exact rgt (And.right (And.right (And.right (And.right (And.right (And.right (And.right (And.right (And.right (And.right (And.right (And.right (by assumption))))))))))))) | exact rne (And.right (And.right (And.right (And.right (And.right (And.right (And.right (And.right (And.right (And.right (And.right (And.right (by assumption))))))))))))) | exact ren (And.right (And.right (And.right (And.right (And.right (And.right (And.right (And.right (And.right (And.right (And.right (And.right (by assumption))))))))))))) | exact qlt (And.right (And.right (And.right (And.right (And.right (And.right (And.right (And.right (And.right (And.right (And.right (And.right (And.right (by assumption)))))))))))))) | exact qgt (And.right (And.right (And.right (And.right (And.right (And.right (And.right (And.right (And.right (And.right (And.right (And.right (And.right (by assumption)))))))))))))) | exact qne (And.right (And.right (And.right (And.right (And.right (And.right (And.right (And.right (And.right (And.right (And.right (And.right (And.right (by assumption)))))))))))))) | exact qen (And.right (And.right (And.right (And.right (And.right (And.right (And.right (And.right (And.right (And.right (And.right (And.right (And.right (by assumption)))))))))))))) | exact rlt (And.right (And.right (And.right (And.right (And.right (And.right (And.right (And.right (And.right (And.right (And.right (And.right (And.right (by assumption)))))))))))))) | exact rgt (And.right (And.right (And.right (And.right (And.right (And.right (And.right (And.right (And.right (And.right (And.right (And.right (And.right (by assumption)))))))))))))) | exact rne (And.right (And.right (And.right (And.right (And.right (And.right (And.right (And.right (And.right (And.right (And.right (And.right (And.right (by assumption)))))))))))))) | exact ren (And.right (And.right (And.right (And.right (And.right (And.right (And.right (And.right (And.right (And.right (And.right (And.right (And.right (by assumption)))))))))))))) | exact qlt (And.right (And.right (And.right (And.right (And.right (And.right (And.right (And.right (And.right (And.right (And.right (And.right (And.right (And.right (by assumption))))))))))))))) | exact qgt (And.right (And.right (And.right (And.right (And.right (And.right (And.right (And.right (And.right (And.right (And.right (And.right (And.right (And.right (by assumption))))))))))))))) | exact qne (And.right (And.right (And.right (And.right (And.right (And.right (And.right (And.right (And.right (And.right (And.right (And.right (And.right (And.right (by assumption))))))))))))))) | exact qen (And.right (And.right (And.right (And.right (And.right (And.right (And.right (And.right (And.right (And.right (And.right (And.right (And.right (And.right (by assumption))))))))))))))) | exact rlt (And.right (And.right (And.right (And.right (And.right (And.right (And.right (And.right (And.right (And.right (And.right (And.right (And.right (And.right (by assumption))))))))))))))) | exact rgt (And.right (And.right (And.right (And.right (And.right (And.right (And.right (And.right (And.right (And.right (And.right (And.right (And.right (And.right (by assumption))))))))))))))) | exact rne (And.right (And.right (And.right (And.right (And.right (And.right (And.right (And.right (And.right (And.right (And.right (And.right (And.right (And.right (by assumption))))))))))))))) | exact ren (And.right (And.right (And.right (And.right (And.right (And.right (And.right (And.right (And.right (And.right (And.right (And.right (And.right (And.right (by assumption))))))))))))))) | exact qlt (And.right (And.right (And.right (And.right (And.right (And.right (And.right (And.right (And.right (And.right (And.right (And.right (And.right (And.right (And.right (by assumption)))))))))))))))) | exact qgt (And.right (And.right (And.right (And.right (And.right (And.right (And.right (And.right (And.right (And.right (And.right (And.right (And.right (And.right (And.right (by assumption)))))))))))))))) | exact qne (And.right (And.right (And.right (And.right (And.right (And.right (And.right (And.right (And.right (And.right (And.right (And.right (And.right (And.right (And.right (by assumption)))))))))))))))) | exact qen (And.right (And.right (And.right (And.right (And.right (And.right (And.right (And.right (And.right (And.right (And.right (And.right (And.right (And.right (And.right (by assumption)))))))))))))))) | exact rlt (And.right (And.right (And.right (And.right (And.right (And.right (And.right (And.right (And.right (And.right (And.right (And.right (And.right (And.right (And.right (by assumption)))))))))))))))) | exact rgt (And.right (And.right (And.right (And.right (And.right (And.right (And.right (And.right (And.right (And.right (And.right (And.right (And.right (And.right (And.right (by assumption)))))))))))))))) | exact rne (And.right (And.right (And.right (And.right (And.right (And.right (And.right (And.right (And.right (And.right (And.right (And.right (And.right (And.right (And.right (by assumption)))))))))))))))) | exact ren (And.right (And.right (And.right (And.right (And.right (And.right (And.right (And.right (And.right (And.right (And.right (And.right (And.right (And.right (And.right (by assumption))))))))))))))))))
  trivial
theorem lay14 : True := by
  k_with "mine texts" => ((try dsimp only [← sx0, ← sx1, ← sx2, ← sx3, ← sx4, ← sx5, ← sx6, ← sx7, ← sx8, ← sx9, ← sx10, ← sx11, ← sx12, ← sx13, ← sx14, ← sx15, ← sx16, ← sx17, ← sx18, ← sx19, ← sx20, ← sx21, ← sx22, ← sx23, ← sx24, ← sx25, ← sx26, ← sx27, ← sx28, ← sx29, ← sx30, ← sx31, ← sx32, ← sx33, ← sx34, ← sx35, ← sx36, ← sx37, ← sx38, ← sx39, ← sx40, ← sx41, ← sx42, ← sx43, ← sx44, ← sx45, ← sx46, ← sx47, ← sx48, ← sx49, ← sx50, ← sx51, ← sx52, ← sx53, ← sx54, ← sx55, ← sx56, ← sx57, ← sx58, ← sx59, ← sx60, ← sx61, ← sx62, ← sx63, ← sx64, ← sx65, ← sx66, ← sx67, ← sx68, ← sx69, ← sx70, ← sx71, ← sx72, ← sx73, ← sx74, ← sx75, ← sx76, ← sx77, ← sx78, ← sx79, ← sx80, ← sx81, ← sx82, ← sx83, ← sx84, ← sx85, ← sx86, ← sx87, ← sx88, ← sx89, ← sx90, ← sx91, ← sx92, ← sx93, ← sx94, ← sx95, ← sx96, ← sx97, ← sx98, ← sx99, ← sx100, ← sx101, ← sx102, ← sx103, ← sx104, ← sx105, ← sx106, ← sx107, ← sx108, ← sx109, ← sx110, ← sx111, ← sx112, ← sx113, ← sx114]))
  k_with "mine drop" => (first | (refine' Drop.head ?a; (case a => k_all)) | (refine' Drop.tail ?a ?b; (case a => k_ne); (case b => walk_at "mine drop")))
  k_with "setAttr ref" => ((k_here; k_dflt (first | (refine' exc_set0 ?k1 ?k2 ?k3 ?k4 ?k5 ?k6 ?k7 ?k8 ?k9 ?_; (case k1 => k_asm); (case k2 => k_asm); (case k3 => k_asm); (case k4 => k_mem); (case k5 => k_is); (case k6 => kernel_rfl); (case k7 => k_is); (case k8 => k_is); (case k9 => intro zqd; k_upd); k_whole; intro zqdp zqhp zqFp zqNp zql1; (try k_lt zql1)) | (refine' exc_set_args ?k1 ?k2 ?k3 ?k4 ?k5 ?k6 ?k7 ?k8 ?k9 ?k10 ?_; (case k1 => k_asm); (case k2 => k_asm); (case k3 => k_asm); (case k4 => first | (refine' InstAt.of_exc ?N ?h1 ?h2; (case N => k_asm); (case h1 => k_mem); (case h2 => k_mem)) | (refine' InstAt.of_exc0 ?N ?h1; (case N => k_asm); (case h1 => k_mem))); (case k5 => exact isTup_of (by k_asm) (by k_mem)); (case k6 => k_is); (case k7 => kernel_rfl); (case k8 => k_is); (case k9 => k_is); (case k10 => k_upd); k_whole; intro zqhp zqFp zqNp) | (refine' exc_set ?k1 ?k2 ?k3 ?k4 ?k5 ?k6 ?k7 ?k8 ?k9 ?k10 ?k11 ?k12 ?_; (case k1 => k_asm); (case k2 => k_asm); (case k3 => k_asm); (case k4 => first | (refine' InstAt.of_exc ?N ?h1 ?h2; (case N => k_asm); (case h1 => k_mem); (case h2 => k_mem)) | (refine' InstAt.of_exc0 ?N ?h1; (case N => k_asm); (case h1 => k_mem))); (case k5 => k_is); (case k6 => kernel_rfl); (case k7 => k_is); (case k8 => k_is); (case k9 => k_get); (case k10 => k_put); (case k11 => k_upd); (case k12 => exact Nat.le_of_ble_eq_true rfl); k_whole; intro zqhp zqFp zqNp))))
  k_with "call builtin:Exception.__init__" => ((k_here; k_dflt (refine' exc_init_call ?k1 ?k2 ?k3 ?k4 ?k5 ?k6 ?_; (case k1 => k_asm); (case k2 => k_asm); (case k3 => k_asm); (case k4 => first | (refine' InstAt.of_exc ?N ?h1 ?h2; (case N => k_asm); (case h1 => k_mem); (case h2 => k_mem)) | (refine' InstAt.of_exc0 ?N ?h1; (case N => k_asm); (case h1 => k_mem))); (case k5 => k_is); (case k6 => intro zqt; k_upd); k_whole; intro zqtp zqhp zqFp zqNp zql1; (try k_lt zql1))))
  k_with "call builtin:repr" => ((k_here; k_dflt (refine' repr_use ?k1 ?k2 ?k3 ?k4 ?k5 ?k6 ?k7 ?_; (case k1 => assumption); (case k2 => k_asm); (case k3 => k_asm); (case k4 => exact rfl); (case k5 => exact rfl); (case k6 => exact Nat.le_of_ble_eq_true rfl); (case k7 => exact Nat.le_of_ble_eq_true rfl); k_whole; intro zqhp zqup zqtkp zqFp zqNp)))
  k_with "BackIn" => ((k_dflt (refine' back_ ?k1 ?k2 ?k3 ?_; (case k1 => k_asm); (case k2 => k_asm); (case k3 => walk_at "mine drop"); k_whole; intro zqFp zqNp; (try dsimp only))))
  k_with "call ref" => ((k_here; k_dflt (refine wpAny_call ?_; refine' enter_in ?k1 ?k2 ?k3 ?k4 ?k5 ?k6 ?k7 ?k8 ?kB ?c2 ?c3 ?c4 ?c5 ?_; (case k1 => k_asm); (case k2 => k_asm); (case k3 => k_asm); (case k4 => exact Top.nolimit (by assumption)); (case k5 => k_is); (case k6 => k_is); (case k7 => exact Nat.le_of_ble_eq_true rfl); (case k8 => first | ((with_reducible show BindsTo _ _ ⟨[_], []⟩ _); first | exact BindsTo.of_eq (binds := [(_, _)]) rfl | exact binds_K (binds := [(_, _)]) (by k_in) rfl (by k_is) rfl rfl rfl) | ((with_reducible show BindsTo _ _ ⟨[_, _], []⟩ _); first | exact BindsTo.of_eq (binds := [(_, _), (_, _)]) rfl | exact binds_K (binds := [(_, _), (_, _)]) (by k_in) rfl (by k_is) rfl rfl rfl) | ((with_reducible show BindsTo _ _ ⟨[_, _, _], []⟩ _); first | exact BindsTo.of_eq (binds := [(_, _), (_, _), (_, _)]) rfl | exact binds_K (binds := [(_, _), (_, _), (_, _)]) (by k_in) rfl (by k_is) rfl rfl rfl) | ((with_reducible show BindsTo _ _ ⟨[_, _, _, _], []⟩ _); first | exact BindsTo.of_eq (binds := [(_, _), (_, _), (_, _), (_, _)]) rfl | exact binds_K (binds := [(_, _), (_, _), (_, _), (_, _)]) (by k_in) rfl (by k_is) rfl rfl rfl) | ((with_reducible show BindsTo _ _ ⟨[_, _, _, _, _], []⟩ _); first | exact BindsTo.of_eq (binds := [(_, _), (_, _), (_, _), (_, _), (_, _)]) rfl | exact binds_K (binds := [(_, _), (_, _), (_, _), (_, _), (_, _)]) (by k_in) rfl (by k_is) rfl rfl rfl)); (case c5 => decide); (case kB => exact locs rfl); (case c2 => exact rfl); (case c3 => exact rfl); (case c4 => exact rfl); k_whole; intro zqoLp zqLp zqhp zqtkp zqFp zqNp zql1 zqn1; (try k_lt zql1); (try (replace zqn1 := allNe_of zqn1; simp only [AllNe, and_true] at zqn1)); (try dsimp only); walk_at "mine texts")))
  k_with "call builtin:str.join" => ((k_here; (with_reducible show wpAny _ _ (call (Value.builtin "str.join") [Value.str _ _, Value.ref _]) _ _ _); k_dflt (refine join_listC (by is_list) (by repeat constructor) (by decide) (by (simp only [List.map_cons, List.map_nil, List.sum_cons, List.sum_nil, List.length_cons, List.length_nil]; omega)) ?_); intro zqtp zqkp))
  k_with "getMethod type:Exception" => ((k_here; refine' method_type ?F ?X ?m (by decide +kernel) ?e ?h ?_; (case F => k_asm); (case X => k_asm); (case m => exact meta_Exception); (case e => k_dflt k_is); (case h => k_handed)))
  k_with "compareOp IsNot" => ((k_here; k_dflt (refine isNot_none (by assumption) ?_)))
  k_with "call builtin:str.format" => ((k_here; k_dflt (refine' line_use ?k1 ?k2 ?k3 ?k4 ?k5 ?k6 ?k7 ?_; (case k1 => assumption); (case k2 => k_asm); (case k3 => k_asm); (case k4 => exact rfl); (case k5 => exact rfl); (case k6 => exact Nat.le_of_ble_eq_true rfl); (case k7 => exact Nat.le_of_ble_eq_true rfl); k_whole; intro zqhp zqup zqtkp zqFp zqNp)))
  k_with "call builtin:str.format" => ((k_here; (with_reducible show wpAny _ _ (call (Value.builtin "str.format") [Value.str _ _, _, _, _, _]) _ _ _); k_dflt (refine' fmt_use ?k1 ?k2 ?k3 ?k4 ?k5 ?_; (case k1 => k_asm); (case k2 => k_asm); (case k3 => exact ⟨rfl, rfl, Nat.le_of_ble_eq_true rfl, Nat.le_of_ble_eq_true rfl⟩); (case k4 => exact args_5 _ _ _ _ _); (case k5 => walk_at "mine fmt")); k_whole; intro zqhp zqup zqtkp zqFp zqNp))
  k_with "pyReprObj" => ((k_here; k_dflt (refine' reprObj_use ?k1 ?k2 ?k3 ?k4 ?k5 ?k6 ?k7 ?_; (case k1 => assumption); (case k2 => k_asm); (case k3 => k_asm); (case k4 => exact rfl); (case k5 => exact rfl); (case k6 => exact Nat.le_of_ble_eq_true rfl); (case k7 => exact Nat.le_of_ble_eq_true rfl); k_whole; intro zqhp zqup zqtkp zqFp zqNp)))
  k_with "call ref" => ((k_here; (with_reducible show wpAny _ _ (call (Value.ref 79) [_, _, Value.int _ _]) _ _ _); k_dflt (refine' err_use (fun Q E hQ => conDSi _ _ _ _ (by intro zqh; cases zqh) _ _ _ (by assumption) _ (by first | exact rep_str (by decide +kernel) | exact Rep.mono (by assumption) (Fr.keep (by k_asm)) | exact rep_two (by k_asm) (by k_mem) (by assumption) (by assumption) (Fr.keep (by k_asm))) _ (by first | exact rep_str (by decide +kernel) | exact Rep.mono (by assumption) (Fr.keep (by k_asm)) | exact rep_two (by k_asm) (by k_mem) (by assumption) (by assumption) (Fr.keep (by k_asm))) Q E (by k_in) (Top.keeps (by assumption) (Fr.keep (by k_asm))) hQ) ?k1 ?k2 ?k3 ?k4 ?k5 ?k6 ?_; (case k1 => k_asm); (case k2 => k_asm); (case k3 => exact rfl); (case k4 => exact rfl); (case k5 => exact Nat.le_of_ble_eq_true rfl); (case k6 => exact Nat.le_of_ble_eq_true rfl); k_whole; intro zqhp zqtkp zqep zqdp zqtap zqodp zqup zqFp zqNp zqn1 zqn2 zqn3 zqhm zqhf; (try simp only [AllNe, and_true] at zqn1 zqn2 zqn3); (have hl0 := zqhf _ (.head _)); (have hl1 := zqhf _ (.tail _ (.head _))); (have hl2 := zqhf _ (.tail _ (.tail _ (.head _)))); (dsimp only at hl0 hl1 hl2); clear zqhf)))
  k_with "call ref" => ((k_here; (with_reducible show wpAny _ _ (call (Value.ref 99) [_, _, _, Value.int _ _]) _ _ _); k_dflt (refine' err_use (fun Q E hQ => conDOi _ _ _ _ _ (by intro zqh; cases zqh) _ _ _ (by assumption) _ (by first | exact rep_str (by decide +kernel) | exact Rep.mono (by assumption) (Fr.keep (by k_asm)) | exact rep_two (by k_asm) (by k_mem) (by assumption) (by assumption) (Fr.keep (by k_asm))) _ (by first | exact rep_str (by decide +kernel) | exact Rep.mono (by assumption) (Fr.keep (by k_asm)) | exact rep_two (by k_asm) (by k_mem) (by assumption) (by assumption) (Fr.keep (by k_asm))) _ (by first | exact rep_str (by decide +kernel) | exact Rep.mono (by assumption) (Fr.keep (by k_asm)) | exact rep_two (by k_asm) (by k_mem) (by assumption) (by assumption) (Fr.keep (by k_asm))) Q E (by k_in) (Top.keeps (by assumption) (Fr.keep (by k_asm))) hQ) ?k1 ?k2 ?k3 ?k4 ?k5 ?k6 ?_; (case k1 => k_asm); (case k2 => k_asm); (case k3 => exact rfl); (case k4 => exact rfl); (case k5 => exact Nat.le_of_ble_eq_true rfl); (case k6 => exact Nat.le_of_ble_eq_true rfl); k_whole; intro zqhp zqtkp zqep zqdp zqtap zqodp zqup zqFp zqNp zqn1 zqn2 zqn3 zqhm zqhf; (try simp only [AllNe, and_true] at zqn1 zqn2 zqn3); (have hl0 := zqhf _ (.head _)); (have hl1 := zqhf _ (.tail _ (.head _))); (have hl2 := zqhf _ (.tail _ (.tail _ (.head _)))); (have hl3 := zqhf _ (.tail _ (.tail _ (.tail _ (.head _))))); (dsimp only at hl0 hl1 hl2 hl3); clear zqhf)))
  k_with "call ref" => ((k_here; (with_reducible show wpAny _ _ (call (Value.ref 99) [_, _, _]) _ _ _); k_dflt (refine' err_use (fun Q E hQ => conDOo _ _ _ _ _ (by intro zqh; cases zqh) _ (by first | exact rep_str (by decide +kernel) | exact Rep.mono (by assumption) (Fr.keep (by k_asm)) | exact rep_two (by k_asm) (by k_mem) (by assumption) (by assumption) (Fr.keep (by k_asm))) _ (by first | exact rep_str (by decide +kernel) | exact Rep.mono (by assumption) (Fr.keep (by k_asm)) | exact rep_two (by k_asm) (by k_mem) (by assumption) (by assumption) (Fr.keep (by k_asm))) _ (by first | exact rep_str (by decide +kernel) | exact Rep.mono (by assumption) (Fr.keep (by k_asm)) | exact rep_two (by k_asm) (by k_mem) (by assumption) (by assumption) (Fr.keep (by k_asm))) Q E (by k_in) (Top.keeps (by assumption) (Fr.keep (by k_asm))) hQ) ?k1 ?k2 ?k3 ?k4 ?k5 ?k6 ?_; (case k1 => k_asm); (case k2 => k_asm); (case k3 => exact rfl); (case k4 => exact rfl); (case k5 => exact Nat.le_of_ble_eq_true rfl); (case k6 => exact Nat.le_of_ble_eq_true rfl); k_whole; intro zqhp zqtkp zqep zqdp zqtap zqodp zqup zqFp zqNp zqn1 zqn2 zqn3 zqhm zqhf; (try simp only [AllNe, and_true] at zqn1 zqn2 zqn3); (have hl0 := zqhf _ (.head _)); (have hl1 := zqhf _ (.tail _ (.head _))); (have hl2 := zqhf _ (.tail _ (.tail _ (.head _)))); (have hl3 := zqhf _ (.tail _ (.tail _ (.tail _ (.head _))))); (dsimp only at hl0 hl1 hl2 hl3); clear zqhf)))
  k_with "getAttr ref" => ((k_here; k_dflt (refine' gets_led6 (f := 36) ?k1 ?k2 ?k3 ?k4 ?k5 ?k6 ?k7 ?k8 ?k9 ?_; (case k1 => k_asm); (case k2 => k_asm); (case k3 => k_asm); (case k4 => k_mem); (case k5 => k_mem); (case k6 => kernel_rfl); (case k8 => assumption); (case k7 => kernel_rfl); (case k9 => exact rfl))))
  trivial
theorem dup4 : ∀ {p : Program} {loose : List Str} {mean : ExcName → Option Value} {mg mb : Str → Option Value} (w : World) (s : Shared) (e : Addr) (wl : Str) (tk0 : Tok) (line : Int) (lt : Tok) (RL : Rep PySem.Challenge.rw_dm0028_06.prog w s.heap (.ref e) wl) (hwl : wl.length ≤ 1000) (h0 : 0 ≤ line) (h1 : line < 100) (LL : Lines PySem.Challenge.rw_dm0028_06.prog w line (lineText line))
    (Q E : Value → Shared → Prop) (KX : (hz.heap_178 w.params).In s.heap) (T : Top p loose mean mg mb s.heap)
    (hQ : ∀ h' tk (l e2 : Addr) (hd tl : Str) (place : Nat) (t1 t2 t3 : Tok) (n : Nat) (new : List (Addr × Obj)), Grow s.heap h' → BearC s.heap h' e wl l e2 hd tl place t1 t2 t3 n new → Q (.ref l) { s with heap := h', toks := tk }),
    wpAny (model PySem.Challenge.rw_dm0028_06.prog w) (AD 500 1500) (call (.ref 184) [.int 4 tk0, .ref e, .int line lt]) Q E s := by
  w_top off
  k_fill
  intro p loose mean mg mb w s e wl tk0 line lt RL hwl h0 h1 LL Q E KX T hQ
  obtain ⟨hh, g, dr, tk, os⟩ := s
  dsimp only at KX T RL hQ
  w_strict (
  refine wpAny_call ?_
  k_dflt (refine' enter_new (h₀ := hh) (binds := [("kind", .int 4 tk0), ("last", .ref e), ("line", .int line lt)]) (news := []) ?k1 ?k2 KX T.nolimit ?k9 ?k5 ?k6 ?k7 ?k8 ?kB ?c2 ?c3 ?c4 ?c5 ?_; (case k5 => k_is); (case k6 => k_is); (case k7 => exact Nat.le_of_ble_eq_true rfl); (case k8 => first | exact BindsTo.of_eq rfl | exact binds_K KX rfl (by k_is) rfl rfl rfl); (case c5 => decide); (case kB => exact locs rfl); (case c2 => exact rfl); (case c3 => exact rfl); (case c4 => exact rfl); (case k1 => exact fun _ _ e => e); (case k2 => exact Nat.le_refl _); (case k9 => exact List.forall_mem_nil _))
  intro L' h' tk' F' N' l1
  walk_at "mine texts"
  k_steps
  all_goals (
    (with_reducible rename Fr _ _ _ _ => Fz)
    (with_reducible rename News _ _ _ _ => Nz)
    (with_reducible rename lookIn (Str.ofString "message") _ = _ => hmz)
    have hT := str6 h0 h1
    refine hQ _ _ _ _ _ _ 2 _ _ _ _ _ Fz.keep (bear_end (new := _) (C := 99) Nz (by k_mem) (by decide) (by k_mem) (by k_mem) (by k_mem) hmz ?za (.inl rfl) (Nat.le_of_ble_eq_true rfl) (fun p hp => hp) ⟨?zb, ?zc⟩)
    case zb => refine Nat.le_trans (m := _) (by with_reducible (repeat' (first | exact hT | apply sl6)); all_goals exact (Nat.le_of_ble_eq_true (by kernel_rfl) : _ ≤ 60)) (Nat.le_of_ble_eq_true rfl)
    case zc => refine Nat.le_trans (m := _) (by with_reducible (repeat' (first | exact hT | apply sl6)); all_goals exact (Nat.le_of_ble_eq_true (by kernel_rfl) : _ ≤ 60)) (Nat.le_of_ble_eq_true rfl)
    case za =>
      simp only [tjc, tj1, cps6, List.append_assoc]
      first | rw [line_hi h0 h1 (by omega)] | rw [line_lo h0 h1 (by omega)] | skip
      try simp only [List.append_assoc]
      generalize (Str.ofString (toString line)).cps.toList = T
      kernel_rfl))
end
section
open PySem PySem.W PySem.Calls PyProof.Rows PySem.SeqAt
set_option Elab.async false
set_option maxRecDepth 100000
set_option maxHeartbeats 4000000
set_option linter.unusedVariables false
abbrev P06 : Program := PySem.Challenge.rw_dm0028_06.prog
noncomputable abbrev KP (w : World) : Frag := hz.heap_178 w.params
theorem cls_ok : ∀ (w : World) (C : Addr), C ∈ cls06 → clsB (KP w) C 36 = true ∧ nameB (KP w) C (Str.ofString "message") = true := by
  intro w C h
  simp only [cls06, List.mem_cons, List.not_mem_nil, or_false] at h
  rcases h with rfl | rfl | rfl | rfl | rfl | rfl <;> exact ⟨by kernel_rfl, by kernel_rfl⟩
section
variable {p : Program} {loose : List Str} {mean : ExcName → Option Value} {mg mb : Str → Option Value}
variable {w : World} {A : Around} {E : Value → Shared → Prop} {s : Shared} {h₀ : Heap} {L : Addr} {m : Str → Option Value} {news led : List (Addr × Obj)} {Q : Value → Shared → Prop} {e : Addr} {msg : Str} {pl : Nat} {v : Value}
theorem Holds.sub {xs : List Value} (h : Holds led xs pl v) (sub : ∀ p ∈ led, p ∈ news) : Holds news xs pl v := by
  rcases h with h | ⟨tp, ts, a, b⟩
  · exact .inl h
  · exact .inr ⟨tp, ts, a, sub _ b⟩
theorem ErrIn.sub (h : ErrIn led e msg pl v) (sub : ∀ p ∈ led, p ∈ news) : ErrIn news e msg pl v := by
  obtain ⟨C, d, ta, od, u, xs, hc, a, b, c, hm, hh, hx⟩ := h
  exact ⟨C, d, ta, od, u, xs, hc, sub _ a, sub _ b, sub _ c, hm, hh.sub sub, hx⟩
theorem tells6 (X : (KP w).In s.heap) (T : Top p loose mean mg mb s.heap) {C d ta : Addr} {od : Obj} {t : Str} {u : Tok} (he : s.heap.get? e = some (excObj C (some d) ta)) (hd : s.heap.get? d = some od) (hc : C ∈ cls06) (hm : lookIn (Str.ofString "message") od = some (some (.str t u))) : Tells P06 w s.heap 36 e t :=
  fun A s' Q E a1 a3 a4 g q => weakenN a1 a3 a4 (msg06 w s' e t u ((gets_field X he hd (cls_ok w C hc).1 (cls_ok w C hc).2 hm rfl).grow g) Q E (X.keeps g) (T.keeps g) fun h' tk u g' => q h' u tk g')
theorem str6_led (F : Fr h₀ L s.heap m) (X₀ : (KP w).In h₀) (T : Top p loose mean mg mb h₀) (N : News h₀ L s.heap news) (h : ErrIn news e msg pl v) (a1 : A.handled = none) (a3 : A.depth ≤ 850) (a4 : A.units ≤ 4200)
    (q : ∀ h' u tk, Fr h₀ L h' m → News h₀ L h' news → Q (.str msg u) { s with heap := h', toks := tk }) : wpAny (model P06 w) A (call (.type "str") [.ref e]) Q E s := by
  obtain ⟨C, d, ta, od, u, xs, hc, a, b, c, hm, hh, hx⟩ := h
  exact strOk_of (X₀.keeps F.keep) (N _ a).1 (N _ b).1 (cls_ok w C hc).1 (tells6 (X₀.keeps F.keep) (T.keeps F.keep) (N _ a).1 (N _ b).1 hc hm) A s Q E a1 a3 a4 (Grow.refl _) fun h' u tk g => q h' u tk (fr_grow F g) (news_grow N g)
theorem rep6 (F : Fr h₀ L s.heap m) (X₀ : (KP w).In h₀) (T : Top p loose mean mg mb h₀) (N : News h₀ L s.heap news) (h : ErrIn news e msg pl v) (hl : msg.length ≤ 1000) : Rep P06 w s.heap (.ref e) msg ∧ RepI P06 w s.heap (.ref e) msg := by
  obtain ⟨C, d, ta, od, u, xs, hc, a, b, c, hm, hh, hx⟩ := h
  have tl := tells6 (X₀.keeps F.keep) (T.keeps F.keep) (N _ a).1 (N _ b).1 hc hm
  have cl := (cls_ok w C hc).1
  refine ⟨repErr_of (X₀.keeps F.keep) (N _ a).1 (N _ b).1 cl tl (Nat.le_trans hl (by decide)), ?_⟩
  simp only [clsB, Bool.and_eq_true, beq_iff_eq] at cl
  exact repI_inst (od := some od) (X₀.keeps F.keep) ⟨(N _ a).1, rfl, rfl, (N _ b).1⟩ cl.1.2 cl.2 tl
theorem repr6_led (F : Fr h₀ L s.heap m) (X₀ : (KP w).In h₀) (T : Top p loose mean mg mb h₀) (N : News h₀ L s.heap news) (h : ErrIn news e msg pl v) (hl : msg.length ≤ 1000) (a1 : A.handled = none) (a2 : A.guards = some []) (a3 : A.depth ≤ 800) (a4 : A.units ≤ 4000)
    (q : ∀ h' u tk, Fr h₀ L h' m → News h₀ L h' news → Q (.str msg u) { s with heap := h', toks := tk }) : wpAny (model P06 w) A (call (.builtin "repr") [.ref e]) Q E s :=
  (rep6 F X₀ T N h hl).1.call A s Q E a1 a2 a3 a4 (Grow.refl _) fun h' u tk g => q h' u tk (fr_grow F g) (news_grow N g)
theorem msg6_led {expr : Bool} (F : Fr h₀ L s.heap m) (X₀ : (KP w).In h₀) (N : News h₀ L s.heap news) (h : ErrIn news e msg pl v) (q : ∀ u, Q (.str msg u) { s with toks := s.toks + 1 }) : wpAny (model P06 w) A (getAttr (.ref e) (Str.ofString "message") expr) Q E s := by
  obtain ⟨C, d, ta, od, u, xs, hc, a, b, c, hm, hh, hx⟩ := h
  exact gets_led6 F X₀ N a b (cls_ok w C hc).1 (cls_ok w C hc).2 hm rfl (q u)
theorem args6_led {expr : Bool} (F : Fr h₀ L s.heap m) (X₀ : (KP w).In h₀) (N : News h₀ L s.heap news) (h : ErrIn news e msg pl v) (q : ∀ ta xs, (ta, tupObj xs) ∈ news → Holds news xs pl v → xs.length ≤ 10 → Q (.ref ta) { s with toks := s.toks + 1 }) : wpAny (model P06 w) A (getAttr (.ref e) (Str.ofString "args") expr) Q E s := by
  obtain ⟨C, d, ta, od, u, xs, hc, a, b, c, hm, hh, hx⟩ := h
  exact args_led6 F X₀ N a b (cls_ok w C hc).1 (q ta xs c hh hx)
/-- a tower: the rows' values, and what the next error would bear -/
inductive Tower (led : List (Addr × Obj)) : List Value → Value → Prop
  | nil (ts : Tok) : Tower led [] (.str (Str.ofString "s") ts)
  | snoc {vs : List Value} {v : Value} {r e : Addr} {w : Str} {pl n : Nat} {t1 t2 : Tok} : Tower led vs v → (r, listOf #[.ref e, .str w t1, .int (pl : Int) t2] n) ∈ led → ErrIn led e w pl v → w.length ≤ 1000 → Tower led (vs ++ [.ref r]) (.ref e)
theorem Tower.sub {vs : List Value} (h : Tower led vs v) (sub : ∀ p ∈ led, p ∈ news) : Tower news vs v := by
  induction h with
  | nil ts => exact .nil ts
  | snoc _ a b c ih => exact .snoc ih (sub _ a) (b.sub sub) c
theorem Tower.last {vs : List Value} (h : Tower led vs v) (hn : vs ≠ []) : ∃ us v0 r e wd pl n t1 t2, vs = us ++ [.ref r] ∧ v = .ref e ∧ Tower led us v0 ∧ (r, listOf #[.ref e, .str wd t1, .int ((pl : Nat) : Int) t2] n) ∈ led ∧ ErrIn led e wd pl v0 ∧ wd.length ≤ 1000 := by
  cases h with
  | nil ts => exact absurd rfl hn
  | snoc h a b c => exact ⟨_, _, _, _, _, _, _, _, _, rfl, rfl, h, a, b, c⟩
end
end
section
open PySem PySem.W PySem.Calls PyProof.Rows PySem.SeqAt
set_option Elab.async false
set_option maxRecDepth 100000
set_option maxHeartbeats 4000000
set_option linter.unusedVariables false
theorem kit6 : ∀ (w : World) (C : Addr), C ∈ cls06 → kitB (KP w) C = true ∧ kitOne (KP w) (.ref C) (.type "tuple") = some false := by
  intro w C h
  simp only [cls06, List.mem_cons, List.not_mem_nil, or_false] at h
  rcases h with rfl | rfl | rfl | rfl | rfl | rfl <;> exact ⟨by kernel_rfl, by kernel_rfl⟩
section
variable {prog : Program} {w : World} {A : Around} {E : Value → Shared → Prop} {s : Shared} {h₀ : Heap} {L : Addr} {m : Str → Option Value} {news : List (Addr × Obj)} {Q : Value → Shared → Prop} {value slice : PySem.Expr}
theorem mul3 {l : Addr} {v : Value} {n : Nat} {u : Tok} (F : Fr h₀ L s.heap m) (N : News h₀ L s.heap news) (hm : (l, listOf #[v] n) ∈ news) (h : ∀ D h', Fr h₀ L h' m → News h₀ L h' ((D, listOf #[v, v, v] 0) :: news) → Q (.ref D) { s with heap := h' }) :
    wpAny (model prog w) A (binaryOp .Mult (.ref l) (.int 3 u)) Q E s :=
  mul_list F N (N _ hm).1 (by decide) (by decide) (by show 1 * 3 ≤ 2 ^ 24; decide) fun h' F' N' => h _ h' F' N'
/-- the last item of a list -/
theorem item_neg {l : Addr} {vs : List Value} {v : Value} {n : Nat} {u : Tok} (N : News h₀ L s.heap news) (hm : (l, listOf (vs ++ [v]).toArray n) ∈ news) (hl : vs.length ≤ 1000) (h : Q v s)
    (hs : subscripted slice false (.ref l) (.int (-1) u) = operate [.ref l, .int (-1) u] (getItem (.ref l) (.int (-1) u)) := by with_unfolding_all rfl) (hg : ∀ r, letTemporaryGo value (.ref l) r = pure () := by intro _; with_unfolding_all rfl) :
    wpAny (model prog w) A (subscriptTail value slice (.ref l) (.int (-1) u)) Q E s := by
  have hz : (vs ++ [v]).toArray.size = vs.length + 1 := by simp
  refine subscriptTail_builtin (News.isList N hm).typeIs slot_list_getitem.lookup (wpAny_getItem_list_neg (News.isList N hm) (by decide) (by rw [hz]; omega) (by decide) (x := v) ?_ h) hs hg
  rw [hz, show ((-1 : Int) + ((vs.length + 1 : Nat) : Int)).toNat = vs.length by omega]
  simp
theorem item_pos {l : Addr} {vs : List Value} {n : Nat} {j : Int} {u : Tok} {v : Value} (N : News h₀ L s.heap news) (hm : (l, listOf vs.toArray n) ∈ news) (k : Nat) (hj : j = k) (hx : vs[k]? = some v) (hl : vs.length ≤ 1000) (h : Q v s)
    (hs : subscripted slice false (.ref l) (.int j u) = operate [.ref l, .int j u] (getItem (.ref l) (.int j u)) := by with_unfolding_all rfl) :
    wpAny (model prog w) A (subscriptTail value slice (.ref l) (.int j u)) Q E s := by
  subst hj
  have hk : k < vs.length := by
    rcases Nat.lt_or_ge k vs.length with q | q
    · exact q
    · rw [List.getElem?_eq_none q] at hx; cases hx
  exact tail_any (News.isList N hm).typeIs slot_list_getitem.lookup (wpAny_getItem_list (News.isList N hm) (by omega) (by omega) (by simpa using hx) h) hs
theorem item_tup6 {a : Addr} {xs : List Value} {k : Nat} {u : Tok} {v : Value} (N : News h₀ L s.heap news) (hm : (a, tupObj xs) ∈ news) (hx : xs[k]? = some v) (hl : xs.length ≤ 10) (h : Q v s)
    (hs : subscripted slice false (.ref a) (.int (k : Int) u) = operate [.ref a, .int (k : Int) u] (getItem (.ref a) (.int (k : Int) u)) := by with_unfolding_all rfl) :
    wpAny (model prog w) A (subscriptTail value slice (.ref a) (.int (k : Int) u)) Q E s := by
  have hk : k < xs.length := by
    rcases Nat.lt_or_ge k xs.length with q | q
    · exact q
    · rw [List.getElem?_eq_none q] at hx; cases hx
  refine item_tupleT (j := k) ⟨_, (N _ hm).1, rfl, _, rfl⟩ (by omega) (by omega) ?_ hx h hs
  unfold seqIndex?
  simp
  omega
theorem isi_tup6 {K : Frag} {a : Addr} {xs : List Value} (X : K.In s.heap) (N : News h₀ L s.heap news) (hm : (a, tupObj xs) ∈ news) (e : kitOne K (.type "tuple") (.type "tuple") = some true) (h : ∀ tk, Q (.bool true) { s with toks := tk }) : wpAny (model prog w) A (call (.builtin "isinstance") [.ref a, .type "tuple"]) Q E s :=
  kia_one kitx_tuple X (kitAt_N N hm rfl) e (by intro q; cases q) h
theorem isi_str6 {K : Frag} {x : Str} {t : Tok} (X : K.In s.heap) (e : kitOne K (.type "str") (.type "tuple") = some false) (h : ∀ tk, Q (.bool false) { s with toks := tk }) : wpAny (model prog w) A (call (.builtin "isinstance") [.str x t, .type "tuple"]) Q E s :=
  kia_one kitx_str X trivial e (by intro q; cases q) h
theorem isi_err6 {e : Addr} {msg : Str} {pl : Nat} {v : Value} (X : (KP w).In s.heap) (N : News h₀ L s.heap news) (he : ErrIn news e msg pl v) (h : ∀ tk, Q (.bool false) { s with toks := tk }) : wpAny (model P06 w) A (call (.builtin "isinstance") [.ref e, .type "tuple"]) Q E s := by
  obtain ⟨C, d, ta, od, u, xs, hc, a, b, c, hm, hh, hx⟩ := he
  exact kia_one (kitx_exc (ox := excObj C (some d) ta) (od := od) (kit6 w C hc).1) X ⟨(N _ a).1, rfl, rfl, (N _ b).1⟩ (kit6 w C hc).2 (by intro q; cases q) h
theorem txt3_ne {x : Str} {a b : Addr} {t1 t2 t3 u1 u2 u3 : Tok} {n1 n2 : Nat} (N : News h₀ L s.heap news) (m1 : (a, listOf #[.str x t1, .str x t2, .str x t3] n1) ∈ news) (m2 : (b, listOf #[.str x u1, .str x u2, .str x u3] n2) ∈ news) (hu : A.units + 64 < cLine) (q : Q (.bool false) s) :
    wpAny (model prog w) A (compareOp .NotEq (.ref a) (.ref b)) Q E s := by
  have es : ∀ t u, EqAt A.in1 s (.str x t) (.str x u) true := fun t u => by simpa using EqAt.str_str (A := A.in1) (s := s) x t x u
  have := RcNeAt.lists (A := A) (e := fun _ => true) (News.isList N m1) (News.isList N m2) rfl (by omega) fun j h1 h2 => by
    rcases (by simp at h1; omega : j = 0 ∨ j = 1 ∨ j = 2) with rfl | rfl | rfl <;> exact es _ _
  exact this prog w E Q q
end
theorem Tower.lastR {led : List (Addr × Obj)} {tv : List Value} {e0 : Addr} (h : Tower led tv (.ref e0)) : ∃ us v0 r wd pl n t1 t2, tv = us ++ [.ref r] ∧ Tower led us v0 ∧ (r, listOf #[.ref e0, .str wd t1, .int ((pl : Nat) : Int) t2] n) ∈ led ∧ ErrIn led e0 wd pl v0 ∧ wd.length ≤ 1000 := by
  cases h with
  | snoc h a b c => exact ⟨_, _, _, _, _, _, _, _, rfl, h, a, b, c⟩
theorem Tower.nil_inv {led : List (Addr × Obj)} {l : List Value} {v : Value} (h : Tower led l v) (e : l = []) : ∃ ts, v = .str (Str.ofString "s") ts := by
  cases h with
  | nil ts => exact ⟨ts, rfl⟩
  | snoc _ _ _ _ => simp at e
/-- the row that a walk from the top down meets -/
theorem Tower.at {led : List (Addr × Obj)} {tv : List Value} {v v' : Value} {i : Nat} (hv : tv.reverse[i]? = some v) (ht : Tower led (tv.take (tv.length - i)) v') :
    ∃ v0 r e wd pl n t1 t2, v = .ref r ∧ v' = .ref e ∧ Tower led (tv.take (tv.length - (i + 1))) v0 ∧ (r, listOf #[.ref e, .str wd t1, .int ((pl : Nat) : Int) t2] n) ∈ led ∧ ErrIn led e wd pl v0 ∧ wd.length ≤ 1000 := by
  have hi : i < tv.length := by
    rcases Nat.lt_or_ge i tv.reverse.length with q | q
    · simpa using q
    · rw [List.getElem?_eq_none q] at hv; cases hv
  have hk : tv.length - i = (tv.length - (i + 1)) + 1 := by omega
  have hk2 : tv.length - (i + 1) < tv.length := by omega
  rw [hk, List.take_add_one, List.getElem?_eq_getElem hk2, Option.toList_some] at ht
  obtain ⟨us', v0, r, e, wd, pl, n, t1, t2, hus, he, h0, a, b, c⟩ := ht.last (List.append_ne_nil_of_right_ne_nil _ (List.cons_ne_nil _ _))
  obtain ⟨e1, e2⟩ := List.append_inj' hus rfl
  have e3 : tv[tv.length - (i + 1)] = .ref r := by injection e2
  refine ⟨v0, r, e, wd, pl, n, t1, t2, ?_, he, e1 ▸ h0, a, b, c⟩
  rw [List.getElem?_reverse (by omega)] at hv
  rw [show tv.length - 1 - i = tv.length - (i + 1) by omega, List.getElem?_eq_getElem hk2, e3] at hv
  exact (Option.some.inj hv).symm
theorem gen5 {h₀ h : Heap} {L : Addr} {x news : List (Addr × Obj)} {C : Prop} (N : News h₀ L h x) (sub : ∀ p ∈ news, p ∈ x) (H : ∀ led, News h₀ L h led → (∀ p ∈ x, p ∈ led) → (∀ p ∈ news, p ∈ led) → C) : C := H x N (fun _ h => h) sub
theorem Tower.top {led : List (Addr × Obj)} {l : List Value} {v : Value} (h : Tower led l v) : (∃ ts, v = .str (Str.ofString "s") ts) ∨ ∃ e w pl v', v = .ref e ∧ ErrIn led e w pl v' := by
  cases h with
  | nil ts => exact .inl ⟨ts, rfl⟩
  | snoc _ _ b _ => exact .inr ⟨_, _, _, _, rfl, b⟩
end
section
open PySem PySem.W PySem.Calls PyProof.Rows PySem.SeqAt
set_option Elab.async false
set_option maxRecDepth 100000
set_option maxHeartbeats 4000000
set_option linter.unusedVariables false
section
variable {prog : Program} {w : World} {A : Around} {E : Value → Shared → Prop} {s : Shared} {env : Env} {h₀ : Heap} {L : Addr} {m : Str → Option Value}
/-- a comprehension whose test never holds -/
theorem comp_none {ct elt : Expr} {x : Str} {scope : Scope} {cl : List (Str × Addr)} {S : List (Addr × Obj) → Prop} {P : Nat → Value → Prop} {Fin : List Value → List (Addr × Obj) → Prop} {n : Nat} {news : List (Addr × Obj)} (hS : S news)
    (turn : ∀ i v I oI C oC D m₂ h tk (E' : Value → Shared → Prop), P i v → LCg.NsObj oC m₂ → m₂ x = some v → Fr h₀ L h m → News h₀ L h ((I, oI) :: (C, oC) :: (D, LCg.lst []) :: news) → LCg.Off3 I C D news → ((@Ne Nat I C) ∧ (@Ne Nat I D) ∧ (@Ne Nat C D)) →
      ∀ Q' : Bool → Shared → Prop, (∀ h' tk', Fr h₀ L h' m → News h₀ L h' ((I, oI) :: (C, oC) :: (D, LCg.lst []) :: news) → Q' false { s with heap := h', toks := tk' }) → wpAny (model prog w) A (isTrue ct (compEnvC scope cl C env) (eval ct (compEnvC scope cl C env))) Q' E' { s with heap := h, toks := tk })
    (fin : Fin [] news) : LCt.CompRestT prog w A h₀ L m env ct elt x scope cl s S P Fin n 0 [] news := by
  have key : ∀ (j i : Nat), LCt.CompRestT prog w A h₀ L m env ct elt x scope cl s S P Fin j i [] news := by
    intro j
    induction j with
    | zero => exact fun i => LCt.CompRestT.zero fin
    | succ j ih =>
      intro i
      refine LCt.CompRestT.succ ?_
      intro v I oI C oC D m₂ h tk E' hv hC hx F N off ne
      refine turn i v I oI C oC D m₂ h tk E' hv hC hx F N off ne _ fun h' tk' F' N' => ?_
      rw [if_neg Bool.false_ne_true]
      exact ⟨h', tk', news, rfl, F', N', off, hS, ih (i + 1)⟩
  exact key n 0
/-- an error made by one of the twelve contracts, taken into the law's ledger -/
theorem bear_use {f : Value} {vs : List Value} {e : Addr} {wl : Str} {a b : Addr × Obj} {led : List (Addr × Obj)} {Q : Value → Shared → Prop}
    (c : ∀ Q E, (∀ h' tk l e2 hd tl place t1 t2 t3 n new, Grow s.heap h' → BearC s.heap h' e wl l e2 hd tl place t1 t2 t3 n new → Q (.ref l) { s with heap := h', toks := tk }) → wpAny (model prog w) (AD 500 1500) (call f vs) Q E s)
    (F : Fr h₀ L s.heap m) (N : News h₀ L s.heap (a :: b :: led)) (h1 : A.handled = none) (h2 : A.guards = some []) (h3 : A.depth ≤ 500) (h4 : A.units ≤ 1500)
    (H : ∀ h' tk l e2 hd tl place t1 t2 t3 n new, Fr h₀ L h' m → News h₀ L h' ((l, listOf #[.ref e2, .str hd t1, .str tl t2, .ref e, .int ((place : Nat) : Int) t3] n) :: a :: b :: (new ++ led)) → (∀ p ∈ new, ∀ q ∈ a :: b :: led, q.1 ≠ p.1) → ErrIn new e2 (hd ++ (wl ++ tl)) place (.ref e) → hd.length ≤ 300 ∧ tl.length ≤ 300 → Q (.ref l) { s with heap := h', toks := tk }) :
    wpAny (model prog w) A (call f vs) Q E s := by
  refine weaken h1 h2 h3 h4 (c Q E fun h' tk l e2 hd tl place t1 t2 t3 n new g z => ?_)
  have hL : ∀ x, s.heap.get? x = none → x ≠ L := fun x hx q => by
    obtain ⟨o, _, _, ho, _⟩ := F.ns
    rw [q, ho] at hx; cases hx
  have h0 : ∀ x, s.heap.get? x = none → h₀.get? x = none := fun x hx => by
    cases q : h₀.get? x with
    | none => rfl
    | some o => rw [F.keep _ _ q] at hx; cases hx
  have hN : ∀ x, s.heap.get? x = none → ∀ p ∈ a :: b :: led, p.1 ≠ x := fun x hx p hp q => by
    have := (N p hp).1
    rw [q, hx] at this; cases this
  refine H h' tk l e2 hd tl place t1 t2 t3 n new (fr_grow F g) ?_ (fun p hp q hq => hN _ (z.hn p hp).2 q hq) z.er z.hlen
  intro p hp
  rcases List.mem_cons.mp hp with rfl | hp
  · exact ⟨z.hl, hL _ z.nl, h0 _ z.nl⟩
  rcases List.mem_cons.mp hp with rfl | hp
  · exact news_grow N g _ (.head _)
  rcases List.mem_cons.mp hp with rfl | hp
  · exact news_grow N g _ (.tail _ (.head _))
  rcases List.mem_append.mp hp with hp | hp
  · exact ⟨(z.hn p hp).1, hL _ (z.hn p hp).2, h0 _ (z.hn p hp).2⟩
  · exact news_grow N g _ (.tail _ (.tail _ hp))
/-- a value that one way or another makes -/
theorem joinB_ {M : Model} {t : Sem Value} {R Q : Value → Shared → Prop} (H1 : ∀ Q' : Value → Shared → Prop, (∀ v s', R v s' → Q' v s') → wpAny M A t Q' E s) (H2 : ∀ v s', R v s' → Q v s') : wpAny M A t Q E s := H1 Q H2
/-- what the ledger of the law bears -/
structure Tow (led : List (Addr × Obj)) (prev : List Value) (us : List Value) (r e0 : Addr) (wl : Str) : Prop where
  prev : ∀ v ∈ prev, ∃ a tv n e, v = .ref a ∧ (a, listOf tv.toArray n) ∈ led ∧ Tower led tv (.ref e) ∧ tv.length ≤ 100
  row : ∃ v0 pl t1 t2 n, Tower led us v0 ∧ (r, listOf #[.ref e0, .str wl t1, .int ((pl : Nat) : Int) t2] n) ∈ led ∧ ErrIn led e0 wl pl v0
  len : wl.length ≤ 400
theorem Tow.sub {led news : List (Addr × Obj)} {prev us : List Value} {r e0 : Addr} {wl : Str} (h : Tow led prev us r e0 wl) (sub : ∀ p ∈ led, p ∈ news) : Tow news prev us r e0 wl := by
  obtain ⟨a, ⟨v0, pl, t1, t2, n, b, c, d⟩, e⟩ := h
  refine ⟨fun v hv => ?_, ⟨v0, pl, t1, t2, n, b.sub sub, sub _ c, d.sub sub⟩, e⟩
  obtain ⟨x, tv, n, y, e1, e2, e3, e4⟩ := a v hv
  exact ⟨x, tv, n, y, e1, sub _ e2, e3.sub sub, e4⟩
theorem Tow.all {led : List (Addr × Obj)} {prev us : List Value} {r e0 ca : Addr} {wl : Str} {cn : Nat} (h : Tow led prev us r e0 wl) (hc : (ca, listOf (us ++ [Value.ref r]).toArray cn) ∈ led) (hl : us.length ≤ 99) : ∀ v ∈ prev ++ [Value.ref ca], ∃ a tv n e, v = .ref a ∧ (a, listOf tv.toArray n) ∈ led ∧ Tower led tv (.ref e) ∧ tv.length ≤ 100 := by
  obtain ⟨a, ⟨v0, pl, t1, t2, n, b, c, d⟩, e⟩ := h
  intro v hv
  rcases List.mem_append.mp hv with hv | hv
  · exact a v hv
  · rw [List.mem_singleton.mp hv]
    exact ⟨ca, _, cn, e0, rfl, hc, .snoc b c d (Nat.le_trans e (by decide)), by simp; omega⟩
theorem start_news {h : Heap} {x1 x2 x3 x4 x5 x6 x7 x8 x9 : Addr × Obj} (N : News h₀ L h [x1, x2, x3, x4, x5, x6, x7, x8, x9]) : News h₀ L h (x4 :: x5 :: [x1, x6, x7, x8, x9]) := fun p hp => N p (by
  simp only [List.mem_cons, List.not_mem_nil, or_false] at hp ⊢
  rcases hp with h | h | h | h | h | h | h <;> simp [h])
theorem first_msg : Str.ofString "No section: " ++ reprText (Str.ofString "s") = Str.ofString "No section: 's'" := by decide +kernel
theorem start_tow {led : List (Addr × Obj)} {prev : List Value} {r e d ae : Addr} {od : Obj} {t1 t2 ts u : Tok} {n : Nat} (hp : ∀ v ∈ prev, ∃ a tv n e, v = Value.ref a ∧ (a, listOf tv.toArray n) ∈ led ∧ Tower led tv (.ref e) ∧ tv.length ≤ 100) (h1 : (r, listOf #[.ref e, .str (Str.ofString "No section: 's'") t1, .int 0 t2] n) ∈ led) (h2 : (e, excObj 59 (some d) ae) ∈ led) (h3 : (d, od) ∈ led) (h4 : (ae, tupObj [.str (Str.ofString "s") ts]) ∈ led)
    (hm : lookIn (Str.ofString "message") od = some (some (.str (Str.ofString "No section: " ++ reprText (Str.ofString "s")) u))) : Tow led prev [] r e (Str.ofString "No section: 's'") := by
  rw [first_msg] at hm
  exact ⟨hp, ⟨.str (Str.ofString "s") ts, 0, t1, t2, n, .nil ts, h1, 59, d, ae, od, u, _, by decide, h2, h3, h4, hm, .inl rfl, Nat.le_of_ble_eq_true rfl⟩, Nat.le_of_ble_eq_true (by kernel_rfl)⟩
def stored06 : List Str := [Str.ofString "x", Str.ofString "rest", Str.ofString "kind", Str.ofString "last", Str.ofString "words", Str.ofString "made", Str.ofString "err", Str.ofString "head", Str.ofString "tail", Str.ofString "field", Str.ofString "place"]
theorem ints_get : ∀ {vs : List Value} {ns : List Int} {i : Nat} {v : Value}, IntsAre vs ns → vs[i]? = some v → ∃ n t, v = .int n t ∧ i < ns.length
  | _, _, 0, _, .cons n t h, e => by cases e; exact ⟨n, t, rfl, Nat.succ_pos _⟩
  | _, _, i + 1, _, .cons n t h, e => by
    obtain ⟨n', t', e', hl⟩ := ints_get h (i := i) e
    exact ⟨n', t', e', Nat.succ_lt_succ hl⟩
/-- between the turns of the law's loop -/
def J6 (l : Addr × Obj) (ta : Addr) (m0 : Str → Option Value) (i : Nat) (m : Str → Option Value) (nx : List (Addr × Obj)) : Prop :=
  ∃ (prev : List Value) (tn : Nat) (ca : Addr) (us : List Value) (r : Addr) (cn : Nat) (e0 : Addr) (wl : Str) (rest : List (Addr × Obj)),
    nx = (ta, listOf (prev ++ [Value.ref ca]).toArray tn) :: (ca, listOf (us ++ [Value.ref r]).toArray cn) :: rest ∧ Tow rest prev us r e0 wl ∧ us.length ≤ i ∧ prev.length ≤ i ∧ (∀ p ∈ rest, p.1 ≠ ta ∧ p.1 ≠ ca) ∧ ta ≠ ca ∧ l ∈ rest ∧ ∀ z, stored06.contains z = false → m z = m0 z
theorem loop06 {l : Addr} {vs : List Value} {ns : List Int} {m₀ : Str → Option Value} {x : Str} {body : List Stmt} {Q : Flow → Shared → Prop} {ta ca r e0 : Addr} {wl : Str} {tn cn : Nat} {rest0 : List (Addr × Obj)} (hh : A.handled = none) (hi : IntsAre vs ns) (hlen : ns.length ≤ 61) (hx : stored06.contains x = true)
    (F : Fr h₀ env.locals s.heap m₀) (N : News h₀ env.locals s.heap ((ta, listOf #[.ref ca] tn) :: (ca, listOf #[.ref r] cn) :: rest0)) (ht : Tow rest0 [] [] r e0 wl) (hne : ∀ p ∈ rest0, p.1 ≠ ta ∧ p.1 ≠ ca) (htc : ta ≠ ca) (hl : (l, listOf vs.toArray 0) ∈ rest0)
    (turn : ∀ (n : Int) (t : Tok) (u : Str → Option Value) (h : Heap) (tk : Nat) (rest own : List (Addr × Obj)) (prev us : List Value) (ca r e0 : Addr) (wl : Str) (tn cn : Nat), us.length ≤ 60 → prev.length ≤ 60 → Tow rest prev us r e0 wl → (∀ p ∈ rest ++ own, p.1 ≠ ta ∧ p.1 ≠ ca) → ta ≠ ca →
      Fr h₀ env.locals h (fun y => if y = x then some (.int n t) else if stored06.contains y then u y else m₀ y) → News h₀ env.locals h ((ta, listOf (prev ++ [Value.ref ca]).toArray tn) :: (ca, listOf (us ++ [Value.ref r]).toArray cn) :: (rest ++ own)) →
      ∀ (Q' : Flow → Shared → Prop), (∀ (h' : Heap) (tk' : Nat) (m' : Str → Option Value) (new : List (Addr × Obj)) (prev' us' : List Value) (ca' r' e' : Addr) (wl' : Str) (tn' cn' : Nat), Fr h₀ env.locals h' m' → (∀ z, stored06.contains z = false → m' z = m₀ z) →
        News h₀ env.locals h' ((ta, listOf (prev' ++ [Value.ref ca']).toArray tn') :: (ca', listOf (us' ++ [Value.ref r']).toArray cn') :: (new ++ (rest ++ own))) → Tow (new ++ rest) prev' us' r' e' wl' → (∀ p ∈ new, p.1 ≠ ta ∧ p.1 ≠ ca') → (∀ p ∈ rest ++ own, p.1 ≠ ca') → ta ≠ ca' → (∀ p ∈ new, ∀ q ∈ rest ++ own, q.1 ≠ p.1) → us'.length ≤ us.length + 1 → prev'.length ≤ prev.length + 1 → Q' .next { s with heap := h', toks := tk' }) →
      wpAny (model prog w) A (execs body env) Q' E { s with heap := h, toks := tk })
    (done : ∀ (m : Str → Option Value) (h : Heap) (tk : Nat) (rest : List (Addr × Obj)) (prev us : List Value) (ca r e0 : Addr) (wl : Str) (tn cn : Nat), us.length ≤ 61 → prev.length ≤ 61 → Tow rest prev us r e0 wl →
      Fr h₀ env.locals h (fun y => if stored06.contains y then m y else m₀ y) → News h₀ env.locals h ((ta, listOf (prev ++ [Value.ref ca]).toArray tn) :: (ca, listOf (us ++ [Value.ref r]).toArray cn) :: rest) → Q .next { s with heap := h, toks := tk }) :
    wpAny (model prog w) A (pyIter (.ref l)) (fun it s₂ => LoopAtV prog w A h₀ env x body Q E it s₂) E s := by
  have map_is : ∀ {m₁ : Str → Option Value} {o : Option Value}, (∀ z, stored06.contains z = false → m₁ z = m₀ z) → (fun y => if y = x then o else m₁ y) = fun y => if y = x then o else if stored06.contains y then m₁ y else m₀ y := by
    intro m₁ o hm
    funext y
    by_cases h1 : y = x
    · rw [if_pos h1, if_pos h1]
    · rw [if_neg h1, if_neg h1]
      cases h2 : stored06.contains y with
      | true => rw [if_pos rfl]
      | false => rw [if_neg Bool.false_ne_true, hm y h2]
  have map_is0 : ∀ {m₁ : Str → Option Value}, (∀ z, stored06.contains z = false → m₁ z = m₀ z) → m₁ = fun y => if stored06.contains y then m₁ y else m₀ y := by
    intro m₁ hm
    funext y
    cases h2 : stored06.contains y with
    | true => rw [if_pos rfl]
    | false => rw [if_neg Bool.false_ne_true, hm y h2]
  refine kdl_iter (m₀ := m₀) (news := (ta, listOf #[.ref ca] tn) :: (ca, listOf #[.ref r] cn) :: rest0) (J6 (l, listOf vs.toArray 0) ta m₀) hh (.tail _ (.tail _ hl)) F N ⟨[], tn, ca, [], r, cn, e0, wl, rest0, rfl, ht, Nat.le_refl _, Nat.le_refl _, hne, htc, hl, fun _ _ => rfl⟩ ?_ ?_
  · rintro i v m₁ news₁ h tk own hv hoff hl' ⟨prev, tn, ca, us, r, cn, e0, wl, rest, rfl, htow, hul, hpl, hne, htc, hlr, hm⟩ F1 N1
    obtain ⟨n, t, rfl, hin⟩ := ints_get hi hv
    rw [map_is hm] at F1
    have hne2 : ∀ p ∈ rest ++ own, p.1 ≠ ta ∧ p.1 ≠ ca := fun p hp => by
      rcases List.mem_append.mp hp with hp | hp
      · exact hne p hp
      · exact ⟨hoff p hp _ (.head _), hoff p hp _ (.tail _ (.head _))⟩
    refine turn n t m₁ h tk rest own prev us ca r e0 wl tn cn (by omega) (by omega) htow hne2 htc F1 N1 _ ?_
    intro h' tk' m' new prev' us' ca' r' e' wl' tn' cn' F2 hm2 N2 htow2 hn1 hn2 hn3 hn4 hu2 hp2
    refine InvEndG.intro (nx := (ta, listOf (prev' ++ [Value.ref ca']).toArray tn') :: (ca', listOf (us' ++ [Value.ref r']).toArray cn') :: (new ++ rest)) F2 N2 ⟨.tail _ (.tail _ (List.mem_append_right _ hlr)), prev', tn', ca', us', r', cn', e', wl', new ++ rest, rfl, htow2, by omega, by omega, ?_, hn3, List.mem_append_right _ hlr, hm2⟩ ?_ ?_ ?_
    · intro p hp
      rcases List.mem_append.mp hp with hp | hp
      · exact hn1 p hp
      · exact ⟨(hne p hp).1, hn2 p (List.mem_append_left _ hp)⟩
    · intro p hp b hb
      simp only [List.map_cons, List.map_append, List.mem_cons, List.mem_append, List.mem_map] at hb
      rcases hb with rfl | rfl | ⟨q, hq, rfl⟩ | ⟨q, hq, rfl⟩
      · exact hoff p hp _ (.head _)
      · exact hn2 p (List.mem_append_right _ hp)
      · exact hn4 q hq p (List.mem_append_right _ hp)
      · exact hoff p hp _ (.tail _ (.tail _ (List.mem_map.mpr ⟨q, hq, rfl⟩)))
    · intro p hp
      rcases List.mem_cons.mp hp with rfl | hp
      · exact .head _
      rcases List.mem_cons.mp hp with rfl | hp
      · exact .tail _ (.head _)
      rcases List.mem_append.mp hp with hp | hp
      · exact .tail _ (.tail _ (List.mem_append_left _ hp))
      · exact .tail _ (.tail _ (List.mem_append_right _ (List.mem_append_left _ hp)))
    · exact fun p hp => .tail _ (.tail _ (List.mem_append_right _ (List.mem_append_right _ hp)))
  · rintro m₁ news₁ h tk ⟨prev, tn, ca, us, r, cn, e0, wl, rest, rfl, htow, hul, hpl, hne, htc, hlr, hm⟩ F1 N1
    rw [map_is0 hm] at F1
    have hvl : vs.length = ns.length := by
      have : ∀ {vs : List Value} {xs : List Int}, IntsAre vs xs → vs.length = xs.length := fun h => by
        induction h with
        | nil => rfl
        | cons _ _ _ ih => simp [ih]
      exact this hi
    exact done m₁ h tk rest prev us ca r e0 wl tn cn (by omega) (by omega) htow F1 N1
end
section
variable {prog : Program} {w : World} {A : Around} {E : Value → Shared → Prop} {s : Shared} {h₀ : Heap} {L : Addr} {m : Str → Option Value} {news : List (Addr × Obj)} {Q : Value → Shared → Prop} {value slice : PySem.Expr}
theorem pick2 (a b c : Value) : slicePick #[a, b, c] none (some 2) none = #[a, b] := by kernel_rfl
/-- the first two of a row -/
theorem row_two {l : Addr} {a b c : Value} {n : Nat} {u : Tok} {ops : List Value} (F : Fr h₀ L s.heap m) (N : News h₀ L s.heap news) (hm : (l, listOf #[a, b, c] n) ∈ news)
    (h : ∀ D h', Fr h₀ L h' m → News h₀ L h' ((D, listOf #[a, b] 0) :: news) → Q (.ref D) { s with heap := h' })
    (hs : subscripted slice false (.ref l) (.ref s.heap.objs.size) = operate ops (getItem (.ref l) (.ref s.heap.objs.size)) := by with_unfolding_all rfl)
    (ht : ∀ r, letTemporaryGo value (.ref l) r = pure () := by intro _; with_unfolding_all rfl) :
    wpAny (model prog w) A (subscriptTail value slice (.ref l) (.ref s.heap.objs.size)) Q E { s with heap := s.heap.push { cls := .type "slice", data := .fields #[.none, .int 2 u, .none] } } :=
  slice_list3 F N (News.isList N hm) .none (IsPart.int _ _) .none (by decide) (fun h' F' N' => h _ h' F' (by rw [pick2] at N'; exact N')) hs ht (Nat.le_trans (by decide : 3 ≤ 10) (by rw [sizeLine_eq]; omega))
end
section
variable {M : Model} {A : Around} {E : Value → Shared → Prop} {s : Shared} {h₀ : Heap} {L : Addr} {m : Str → Option Value} {Q : Value → Shared → Prop}
theorem led2 {h : Heap} {news led : List (Addr × Obj)} {a b : Addr × Obj} (N : News h₀ L h news) (h1 : a ∈ news) (h2 : b ∈ news) (h3 : ∀ p ∈ led, p ∈ news) : News h₀ L h (a :: b :: led) := fun p hp => by
  rcases List.mem_cons.mp hp with rfl | hp
  · exact N _ h1
  rcases List.mem_cons.mp hp with rfl | hp
  · exact N _ h2
  · exact N _ (h3 p hp)
theorem joinM_ {t : Sem Value} {a b : Addr × Obj} {led : List (Addr × Obj)} (e : Addr) (wl : Str) (F : Fr h₀ L s.heap m) (N : News h₀ L s.heap (a :: b :: led))
    (H1 : ∀ Q' : Value → Shared → Prop, (∀ h' tk l e2 hd tl place t1 t2 t3 n new, Fr h₀ L h' m → News h₀ L h' ((l, listOf #[.ref e2, .str hd t1, .str tl t2, .ref e, .int ((place : Nat) : Int) t3] n) :: a :: b :: (new ++ led)) → (∀ p ∈ new, ∀ q ∈ a :: b :: led, q.1 ≠ p.1) → ErrIn new e2 (hd ++ (wl ++ tl)) place (.ref e) → hd.length ≤ 300 ∧ tl.length ≤ 300 → Q' (.ref l) { s with heap := h', toks := tk }) → wpAny M A t Q' E s)
    (H2 : ∀ h' tk l e2 hd tl place t1 t2 t3 n new, Fr h₀ L h' m → News h₀ L h' ((l, listOf #[.ref e2, .str hd t1, .str tl t2, .ref e, .int ((place : Nat) : Int) t3] n) :: a :: b :: (new ++ led)) → (∀ p ∈ new, ∀ q ∈ a :: b :: led, q.1 ≠ p.1) → ErrIn new e2 (hd ++ (wl ++ tl)) place (.ref e) → hd.length ≤ 300 ∧ tl.length ≤ 300 → Q (.ref l) { s with heap := h', toks := tk }) : wpAny M A t Q E s := H1 Q H2
end
section
variable {prog : Program} {w : World} {A : Around} {E : Value → Shared → Prop} {s : Shared} {h₀ : Heap} {L : Addr} {m : Str → Option Value} {Q : Value → Shared → Prop}
theorem lt_mem {d : Addr} : ∀ {l : List (Addr × Obj)}, AllLt d l → ∀ p ∈ l, p.1 < d
  | [], _, _, h => nomatch h
  | _ :: _, a, p, h => by
    rcases List.mem_cons.mp h with rfl | h
    · exact a.1
    · exact lt_mem a.2 p h
theorem app_led {D : Addr} {us : List Value} {n : Nat} {v : Value} {r : List (Addr × Obj)} (F : Fr h₀ L s.heap m) (N : News h₀ L s.heap ((D, listOf us.toArray n) :: r)) (hne : ∀ p ∈ r, p.1 ≠ D) (hl : us.length ≤ 1000)
    (h : ∀ h', Fr h₀ L h' m → News h₀ L h' ((D, listOf (us ++ [v]).toArray (n + 1)) :: r) → Q .none { s with heap := h' }) : wpAny (model prog w) A (call (.builtin "list.append") [.ref D, v]) Q E s :=
  append_K F N (.head hne) (fun h' F' N' => h h' F' (by rw [← List.push_toArray]; exact N')) (by rw [sizeLine_eq, List.size_toArray]; omega)
/-- a row is put onto the last tower -/
theorem app6 {cv : List Value} {cn : Nat} {v : Value} {r2 ta ca : Addr} {ro to : Obj} {x : Addr × Obj} {led : List (Addr × Obj)} (F : Fr h₀ L s.heap m) (N : News h₀ L s.heap ((r2, ro) :: x :: (ta, to) :: (ca, listOf cv.toArray cn) :: led))
    (hlt : @LT.lt Nat _ x.1 r2 ∧ @LT.lt Nat _ ta r2 ∧ @LT.lt Nat _ ca r2 ∧ AllLt r2 led) (hne : ∀ p ∈ led, p.1 ≠ ta ∧ p.1 ≠ ca) (htc : ta ≠ ca) (hl : cv.length ≤ 1000)
    (h : ∀ h', Fr h₀ L h' m → News h₀ L h' ((ta, to) :: (ca, listOf (cv ++ [v]).toArray (cn + 1)) :: (r2, ro) :: led) → Q .none { s with heap := h' }) : wpAny (model prog w) A (call (.builtin "list.append") [.ref ca, v]) Q E s := by
  refine app_led (us := cv) (n := cn) (r := (ta, to) :: (r2, ro) :: led) F (fun p hp => N p ?_) (fun p hp => ?_) hl (fun h' F' N' => h h' F' fun p hp => N' p ?_)
  · rcases List.mem_cons.mp hp with rfl | hp
    · exact .tail _ (.tail _ (.tail _ (.head _)))
    rcases List.mem_cons.mp hp with rfl | hp
    · exact .tail _ (.tail _ (.head _))
    rcases List.mem_cons.mp hp with rfl | hp
    · exact .head _
    · exact .tail _ (.tail _ (.tail _ (.tail _ hp)))
  · rcases List.mem_cons.mp hp with rfl | hp
    · exact htc
    rcases List.mem_cons.mp hp with rfl | hp
    · exact Nat.ne_of_gt hlt.2.2.1
    · exact (hne p hp).2
  · rcases List.mem_cons.mp hp with rfl | hp
    · exact .tail _ (.head _)
    rcases List.mem_cons.mp hp with rfl | hp
    · exact .head _
    · exact .tail _ (.tail _ hp)
end
theorem Tow.next {rest new8 : List (Addr × Obj)} {prev us : List Value} {r e0 r2 e8 : Addr} {wl wl8 : Str} {pl8 n : Nat} {t1 t2 : Tok} (h : Tow rest prev us r e0 wl) (her : ErrIn new8 e8 wl8 pl8 (.ref e0)) (hl : wl8.length ≤ 400) :
    Tow (((r2, listOf #[.ref e8, .str wl8 t1, .int ((pl8 : Nat) : Int) t2] n) :: new8) ++ rest) prev (us ++ [Value.ref r]) r2 e8 wl8 := by
  have h2 := h.sub (news := ((r2, listOf #[.ref e8, .str wl8 t1, .int ((pl8 : Nat) : Int) t2] n) :: new8) ++ rest) fun p hp => List.mem_append_right _ hp
  obtain ⟨v0, pl, u1, u2, n', a, b, c⟩ := h2.row
  exact ⟨h2.prev, ⟨.ref e0, pl8, t1, t2, n, .snoc a b c (Nat.le_trans h.len (by decide)), .head _, her.sub fun p hp => .tail _ (List.mem_append_left _ hp)⟩, hl⟩
section
variable {prog : Program} {w : World} {A : Around} {E : Value → Shared → Prop} {s : Shared} {h₀ : Heap} {L : Addr} {m : Str → Option Value} {Q : Value → Shared → Prop}
/-- a tower is put onto the towers -/
theorem app_tow {tv : List Value} {tn : Nat} {v : Value} {cb r3 e3 d3 a3 ta ca r2 : Addr} {ob o3 oe od oa oc o2 : Obj} {led : List (Addr × Obj)} (F : Fr h₀ L s.heap m)
    (N : News h₀ L s.heap ((cb, ob) :: (r3, o3) :: (e3, oe) :: (d3, od) :: (a3, oa) :: (ta, listOf tv.toArray tn) :: (ca, oc) :: (r2, o2) :: led))
    (hcb : ta ≠ cb) (hr3 : ta ≠ r3) (he3 : ta ≠ e3) (hd3 : ta ≠ d3) (ha3 : ta ≠ a3) (hca : ta ≠ ca) (hr2 : ta ≠ r2) (hne : ∀ p ∈ led, p.1 ≠ ta) (hl : tv.length ≤ 1000)
    (h : ∀ h', Fr h₀ L h' m → News h₀ L h' ((ta, listOf (tv ++ [v]).toArray (tn + 1)) :: (cb, ob) :: (ca, oc) :: (r3, o3) :: (e3, oe) :: (d3, od) :: (a3, oa) :: (r2, o2) :: led) → Q .none { s with heap := h' }) : wpAny (model prog w) A (call (.builtin "list.append") [.ref ta, v]) Q E s := by
  refine app_led (us := tv) (n := tn) (r := (cb, ob) :: (ca, oc) :: (r3, o3) :: (e3, oe) :: (d3, od) :: (a3, oa) :: (r2, o2) :: led) F (fun p hp => N p ?_) (fun p hp => ?_) hl h
  · simp only [List.mem_cons] at hp ⊢
    rcases hp with h | h | h | h | h | h | h | h | h <;> simp [h]
  · simp only [List.mem_cons] at hp
    rcases hp with rfl | rfl | rfl | rfl | rfl | rfl | rfl | hp
    · exact Ne.symm hcb
    · exact Ne.symm hca
    · exact Ne.symm hr3
    · exact Ne.symm he3
    · exact Ne.symm hd3
    · exact Ne.symm ha3
    · exact Ne.symm hr2
    · exact hne p hp
end
theorem Tow.all2 {rest new8 led : List (Addr × Obj)} {prev us : List Value} {r e0 r2 e8 ca : Addr} {wl wl8 : Str} {pl8 n cn : Nat} {t1 t2 : Tok} (h : Tow rest prev us r e0 wl) (her : ErrIn new8 e8 wl8 pl8 (.ref e0)) (hl : wl8.length ≤ 1000) (hu : us.length ≤ 60) (s1 : ∀ p ∈ rest, p ∈ led) (s2 : ∀ p ∈ new8, p ∈ led)
    (hr : (r2, listOf #[.ref e8, .str wl8 t1, .int ((pl8 : Nat) : Int) t2] n) ∈ led) (hc : (ca, listOf (us ++ [Value.ref r] ++ [Value.ref r2]).toArray cn) ∈ led) : ∀ v ∈ prev ++ [Value.ref ca], ∃ a tv n e, v = Value.ref a ∧ (a, listOf tv.toArray n) ∈ led ∧ Tower led tv (.ref e) ∧ tv.length ≤ 100 := by
  have h2 := h.sub s1
  obtain ⟨v0, pl, u1, u2, n', a, b, c⟩ := h2.row
  intro v hv
  rcases List.mem_append.mp hv with hv | hv
  · exact h2.prev v hv
  · rw [List.mem_singleton.mp hv]
    exact ⟨ca, _, cn, e8, rfl, hc, .snoc (.snoc a b c (Nat.le_trans h.len (by decide))) hr (her.sub s2) hl, by simp; omega⟩
theorem ne_mem {d : Addr} : ∀ {l : List (Addr × Obj)}, AllNe d l → ∀ p ∈ l, p.1 ≠ d
  | [], _, _, h => nomatch h
  | _ :: _, a, p, h => by
    rcases List.mem_cons.mp h with rfl | h
    · exact a.1
    · exact ne_mem a.2 p h
section
variable {prog : Program} {w : World} {A : Around} {E : Value → Shared → Prop} {s : Shared} {h₀ : Heap} {L : Addr} {Q : Value → Shared → Prop}
/-- two empty lists -/
theorem eq_nil6 {news : List (Addr × Obj)} {a b : Addr} {n1 n2 : Nat} (N : News h₀ L s.heap news) (m1 : (a, listOf #[] n1) ∈ news) (m2 : (b, listOf #[] n2) ∈ news) (hu : A.units + 2 < cLine) (q : Q (.bool true) s) :
    wpAny (model prog w) A (compareOp .Eq (.ref a) (.ref b)) Q E s := by
  have := RcAt.lists (A := A) (e := fun _ => true) (News.isList N m1) (News.isList N m2) rfl (by omega) fun j h1 h2 => absurd h2 (by simp)
  exact this prog w E Q q
end
theorem base_of {h₀ h : Heap} {L : Addr} {x : List (Addr × Obj)} (_ : News h₀ L h x) : ∃ b, b = x := ⟨x, rfl⟩
end
section
open PySem PySem.W PySem.W.X PySem.Calls PyProof.Rows
set_option Elab.async false
set_option maxRecDepth 100000
set_option maxHeartbeats 1000000
set_option linter.unusedVariables false
theorem log6 {n : Int} (h0 : 0 ≤ n) (h1 : n < 100) : Lines P06 w n (lineText n) := by
  obtain ⟨k, rfl⟩ := Int.eq_ofNat_of_zero_le h0
  have hk : k < 100 := by omega
  refine lines_of (Nat.lt_of_le_of_lt (Nat.log2_le_self k) (Nat.lt_of_lt_of_le hk (Nat.le_of_ble_eq_true rfl))) ?_
  exact Nat.le_trans (fig2_len (n := (k : Int)) (Nat.lt_of_lt_of_le hk (Nat.le_of_ble_eq_true rfl))) (Nat.le_of_ble_eq_true rfl)
theorem bearC {p : Program} {loose : List Str} {mean : ExcName → Option Value} {mg mb : Str → Option Value} (w : World) (s : Shared) (e : Addr) (wl : Str) {k : Int} (tk0 : Tok) (h0 : 0 ≤ k) (h1 : k < 7) (RL : Rep P06 w s.heap (.ref e) wl) (RI : RepI P06 w s.heap (.ref e) wl) (hwl : wl.length ≤ 1000)
    (Q E : Value → Shared → Prop) (KX : (hz.heap_178 w.params).In s.heap) (T : Top p loose mean mg mb s.heap)
    (hQ : ∀ h' tk l e2 hd tl place t1 t2 t3 n new, Grow s.heap h' → BearC s.heap h' e wl l e2 hd tl place t1 t2 t3 n new → Q (.ref l) { s with heap := h', toks := tk }) :
    wpAny (model PySem.Challenge.rw_dm0028_06.prog w) (AD 500 1500) (call (.ref 191) [.int k tk0, .ref e]) Q E s := by
  have hk : k = 0 ∨ k = 1 ∨ k = 2 ∨ k = 3 ∨ k = 4 ∨ k = 5 ∨ k = 6 := by omega
  rcases hk with rfl | rfl | rfl | rfl | rfl | rfl | rfl
  · exact bear0 w s e wl tk0 RL RI hwl Q E KX T hQ
  · exact bear1 w s e wl tk0 RL RI hwl Q E KX T hQ
  · exact bear2 w s e wl tk0 RL RI hwl Q E KX T hQ
  · exact bear3 w s e wl tk0 RL RI hwl Q E KX T hQ
  · exact bear4 w s e wl tk0 RL RI hwl Q E KX T hQ
  · exact bear5 w s e wl tk0 RL RI hwl Q E KX T hQ
  · exact bear6 w s e wl tk0 RL RI hwl Q E KX T hQ
theorem dupC {p : Program} {loose : List Str} {mean : ExcName → Option Value} {mg mb : Str → Option Value} (w : World) (s : Shared) (e : Addr) (wl : Str) {k : Int} (tk0 : Tok) {line : Int} (lt : Tok) (h0 : 0 ≤ k) (h1 : k < 5) (RL : Rep P06 w s.heap (.ref e) wl) (hwl : wl.length ≤ 1000) (g0 : 0 ≤ line) (g1 : line < 100)
    (Q E : Value → Shared → Prop) (KX : (hz.heap_178 w.params).In s.heap) (T : Top p loose mean mg mb s.heap)
    (hQ : ∀ h' tk l e2 hd tl place t1 t2 t3 n new, Grow s.heap h' → BearC s.heap h' e wl l e2 hd tl place t1 t2 t3 n new → Q (.ref l) { s with heap := h', toks := tk }) :
    wpAny (model PySem.Challenge.rw_dm0028_06.prog w) (AD 500 1500) (call (.ref 184) [.int k tk0, .ref e, .int line lt]) Q E s := by
  have hk : k = 0 ∨ k = 1 ∨ k = 2 ∨ k = 3 ∨ k = 4 := by omega
  rcases hk with rfl | rfl | rfl | rfl | rfl
  · exact dup0 w s e wl tk0 line lt RL hwl g0 g1 (log6 g0 g1) Q E KX T hQ
  · exact dup1 w s e wl tk0 line lt RL hwl g0 g1 (log6 g0 g1) Q E KX T hQ
  · exact dup2 w s e wl tk0 line lt RL hwl g0 g1 (log6 g0 g1) Q E KX T hQ
  · exact dup3 w s e wl tk0 line lt RL hwl g0 g1 (log6 g0 g1) Q E KX T hQ
  · exact dup4 w s e wl tk0 line lt RL hwl g0 g1 (log6 g0 g1) Q E KX T hQ
end
section
theorem layR061 : True := by
  k_with_none
  k_with "ne" => (with_reducible (first | exact ns1 | exact ns2 | exact qlt (by assumption) | exact qgt (by assumption) | exact qne (by assumption) | exact qen (by assumption) | exact rlt (by assumption) | exact rgt (by assumption) | exact rne (by assumption) | exact ren (by assumption) | exact qlt (And.right (by assumption)) | exact qgt (And.right (by assumption)) | exact qne (And.right (by assumption)) | exact qen (And.right (by assumption)) | exact rlt (And.right (by assumption)) | exact rgt (And.right (by assumption)) | exact rne (And.right (by assumption)) | exact ren (And.right (by assumption)) | exact qlt (And.right (And.right (by assumption))) | exact qgt (And.right (And.right (by assumption))) | exact qne (And.right (And.right (by assumption))) | exact qen (And.right (And.right (by assumption))) | exact rlt (And.right (And.right (by assumption))) | exact rgt (And.right (And.right (by assumption))) | exact rne (And.right (And.right (by assumption))) | exact ren (And.right (And.right (by assumption))) | exact qlt (And.right (And.right (And.right (by assumption)))) | exact qgt (And.right (And.right (And.right (by assumption)))) | exact qne (And.right (And.right (And.right (by assumption)))) | exact qen (And.right (And.right (And.right (by assumption)))) | exact rlt (And.right (And.right (And.right (by assumption)))) | exact rgt (And.right (And.right (And.right (by assumption)))) | exact rne (And.right (And.right (And.right (by assumption)))) | exact ren (And.right (And.right (And.right (by assumption)))) | exact qlt (And.right (And.right (And.right (And.right (by assumption))))) | exact qgt (And.right (And.right (And.right (And.right (by assumption))))) | exact qne (And.right (And.right (And.right (And.right (by assumption))))) | exact qen (And.right (And.right (And.right (And.right (by assumption))))) | exact rlt (And.right (And.right (And.right (And.right (by assumption))))) | exact rgt (And.right (And.right (And.right (And.right (by assumption))))) | exact rne (And.right (And.right (And.right (And.right (by assumption))))) | exact ren (And.right (And.right (And.right (And.right (by assumption))))) | exact qlt (And.right (And.right (And.right (And.right (And.right (by assumption)))))) | exact qgt (And.right (And.right (And.right (And.right (And.right (by assumption)))))) | exact qne (And.right (And.right (And.right (And.right (And.right (by assumption)))))) | exact qen (And.right (And.right (And.right (And.right (And.right (by assumption)))))) | exact rlt (And.right (And.right (And.right (And.right (And.right (by assumption)))))) | exact rgt (And.right (And.right (And.right (And.right (And.right (by assumption)))))) | exact rne (And.right (And.right (And.right (And.right (And.right (by assumption)))))) | exact ren (And.right (And.right (And.right (And.right (And.right (by assumption)))))) | exact qlt (And.right (And.right (And.right (And.right (And.right (And.right (by assumption))))))) | exact qgt (And.right (And.right (And.right (And.right (And.right (And.right (by assumption))))))) | exact qne (And.right (And.right (And.right (And.right (And.right (And.right (by assumption))))))) | exact qen (And.right (And.right (And.right (And.right (And.right (And.right (by assumption))))))) | exact rlt (And.right (And.right (And.right (And.right (And.right (And.right (by assumption))))))) | exact rgt (And.right (And.right (And.right (And.right (And.right (And.right (by assumption))))))) | exact rne (And.right (And.right (And.right (And.right (And.right (And.right (by assumption))))))) | exact ren (And.right (And.right (And.right (And.right (And.right (And.right (by assumption))))))) | exact qlt (And.right (And.right (And.right (And.right (And.right (And.right (And.right (by assumption)))))))) | exact qgt (And.right (And.right (And.right (And.right (And.right (And.right (And.right (by assumption)))))))) | exact qne (And.right (And.right (And.right (And.right (And.right (And.right (And.right (by assumption)))))))) | exact qen (And.right (And.right (And.right (And.right (And.right (And.right (And.right (by assumption)))))))) | exact rlt (And.right (And.right (And.right (And.right (And.right (And.right (And.right (by assumption)))))))) | exact rgt (And.right (And.right (And.right (And.right (And.right (And.right (And.right (by assumption)))))))) | exact rne (And.right (And.right (And.right (And.right (And.right (And.right (And.right (by assumption)))))))) | exact ren (And.right (And.right (And.right (And.right (And.right (And.right (And.right (by assumption)))))))) | exact qlt (And.right (And.right (And.right (And.right (And.right (And.right (And.right (And.right (by assumption))))))))) | exact qgt (And.right (And.right (And.right (And.right (And.right (And.right (And.right (And.right (by assumption))))))))) | exact qne (And.right (And.right (And.right (And.right (And.right (And.right (And.right (And.right (by assumption))))))))) | exact qen (And.right (And.right (And.right (And.right (And.right (And.right (And.right (And.right (by assumption))))))))) | exact rlt (And.right (And.right (And.right (And.right (And.right (And.right (And.right (And.right (by assumption))))))))) | exact rgt (And.right (And.right (And.right (And.right (And.right (And.right (And.right (And.right (by assumption))))))))) | exact rne (And.right (And.right (And.right (And.right (And.right (And.right (And.right (And.right (by assumption))))))))) | exact ren (And.right (And.right (And.right (And.right (And.right (And.right (And.right (And.right (by assumption))))))))) | exact qlt (And.right (And.right (And.right (And.right (And.right (And.right (And.right (And.right (And.right (by assumption)))))))))) | exact qgt (And.right (And.right (And.right (And.right (And.right (And.right (And.right (And.right (And.right (by assumption)))))))))) | exact qne (And.right (And.right (And.right (And.right (And.right (And.right (And.right (And.right (And.right (by assumption)))))))))) | exact qen (And.right (And.right (And.right (And.right (And.right (And.right (And.right (And.right (And.right (by assumption)))))))))) | exact rlt (And.right (And.right (And.right (And.right (And.right (And.right (And.right (And.right (And.right (by assumption)))))))))) | exact rgt (And.right (And.right (And.right (And.right (And.right (And.right (And.right (And.right (And.right (by assumption)))))))))) | exact rne (And.right (And.right (And.right (And.right (And.right (And.right (And.right (And.right (And.right (by assumption)))))))))) | exact ren (And.right (And.right (And.right (And.right (And.right (And.right (And.right (And.right (And.right (by assumption)))))))))) | exact qlt (And.right (And.right (And.right (And.right (And.right (And.right (And.right (And.right (And.right (And.right (by assumption))))))))))) | exact qgt (And.right (And.right (And.right (And.right (And.right (And.right (And.right (And.right (And.right (And.right (by assumption))))))))))) | exact qne (And.right (And.right (And.right (And.right (And.right (And.right (And.right (And.right (And.right (And.right (by assumption))))))))))) | exact qen (And.right (And.right (And.right (And.right (And.right (And.right (And.right (And.right (And.right (And.right (by assumption))))))))))) | exact rlt (And.right (And.right (And.right (And.right (And.right (And.right (And.right (And.right (And.right (And.right (by assumption))))))))))) | exact rgt (And.right (And.right (And.right (And.right (And.right (And.right (And.right (And.right (And.right (And.right (by assumption))))))))))) | exact rne (And.right (And.right (And.right (And.right (And.right (And.right (And.right (And.right (And.right (And.right (by assumption))))))))))) | exact ren (And.right (And.right (And.right (And.right (And.right (And.right (And.right (And.right (And.right (And.right (by assumption))))))))))) | exact qlt (And.right (And.right (And.right (And.right (And.right (And.right (And.right (And.right (And.right (And.right (And.right (by assumption)))))))))))) | exact qgt (And.right (And.right (And.right (And.right (And.right (And.right (And.right (And.right (And.right (And.right (And.right (by assumption)))))))))))) | exact qne (And.right (And.right (And.right (And.right (And.right (And.right (And.right (And.right (And.right (And.right (And.right (by assumption)))))))))))) | exact qen (And.right (And.right (And.right (And.right (And.right (And.right (And.right (And.right (And.right (And.right (And.right (by assumption)))))))))))) | exact rlt (And.right (And.right (And.right (And.right (And.right (And.right (And.right (And.right (And.right (And.right (And.right (by assumption)))))))))))) | exact rgt (And.right (And.right (And.right (And.right (And.right (And.right (And.right (And.right (And.right (And.right (And.right (by assumption)))))))))))) | exact rne (And.right (And.right (And.right (And.right (And.right (And.right (And.right (And.right (And.right (And.right (And.right (by assumption)))))))))))) | exact ren (And.right (And.right (And.right (And.right (And.right (And.right (And.right (And.right (And.right (And.right (And.right (by assumption)))))))))))) | exact qlt (And.right (And.right (And.right (And.right (And.right (And.right (And.right (And.right (And.right (And.right (And.right (And.right (by assumption))))))))))))) | exact qgt (And.right (And.right (And.right (And.right (And.right (And.right (And.right (And.right (And.right (And.right (And.right (And.right (by assumption))))))))))))) | exact qne (And.right (And.right (And.right (And.right (And.right (And.right (And.right (And.right (And.right (And.right (And.right (And.right (by assumption))))))))))))) | exact qen (And.right (And.right (And.right (And.right (And.right (And.right (And.right (And.right (And.right (And.right (And.right (And.right (by assumption))))))))))))) | exact rlt (And.right (And.right (And.right (And.right (And.right (And.right (And.right (And.right (And.right (And.right (And.right (And.right (by assumption))))))))))))) | exact rgt (And.right (And.right (And.right (And.right (And.right (And.right (And.right (And.right (And.right (And.right (And.right (And.right (by assumption))))))))))))) | exact rne (And.right (And.right (And.right (And.right (And.right (And.right (And.right (And.right (And.right (And.right (And.right (And.right (by assumption))))))))))))) | exact ren (And.right (And.right (And.right (And.right (And.right (And.right (And.right (And.right (And.right (And.right (And.right (And.right (by assumption))))))))))))) | exact qlt (And.right (And.right (And.right (And.right (And.right (And.right (And.right (And.right (And.right (And.right (And.right (And.right (And.right (by assumption)))))))))))))) | exact qgt (And.right (And.right (And.right (And.right (And.right (And.right (And.right (And.right (And.right (And.right (And.right (And.right (And.right (by assumption)))))))))))))) | exact qne (And.right (And.right (And.right (And.right (And.right (And.right (And.right (And.right (And.right (And.right (And.right (And.right (And.right (by assumption)))))))))))))) | exact qen (And.right (And.right (And.right (And.right (And.right (And.right (And.right (And.right (And.right (And.right (And.right (And.right (And.right (by assumption)))))))))))))) | exact rlt (And.right (And.right (And.right (And.right (And.right (And.right (And.right (And.right (And.right (And.right (And.right (And.right (And.right (by assumption)))))))))))))) | exact rgt (And.right (And.right (And.right (And.right (And.right (And.right (And.right (And.right (And.right (And.right (And.right (And.right (And.right (by assumption)))))))))))))) | exact rne (And.right (And.right (And.right (And.right (And.right (And.right (And.right (And.right (And.right (And.right (And.right (And.right (And.right (by assumption)))))))))))))) | exact ren (And.right (And.right (And.right (And.right (And.right (And.right (And.right (And.right (And.right (And.right (And.right (And.right (And.right (by assumption)))))))))))))) | exact qlt (And.right (And.right (And.right (And.right (And.right (And.right (And.right (And.right (And.right (And.right (And.right (And.right (And.right (And.right (by assumption))))))))))))))) | exact qgt (And.right (And.right (And.right (And.right (And.right (And.right (And.right (And.right (And.right (And.right (And.right (And.right (And.right (And.right (by assumption))))))))))))))) | exact qne (And.right (And.right (And.right (And.right (And.right (And.right (And.right (And.right (And.right (And.right (And.right (And.right (And.right (And.right (by assumption))))))))))))))) | exact qen (And.right (And.right (And.right (And.right (And.right (And.right (And.right (And.right (And.right (And.right (And.right (And.right (And.right (And.right (by assumption))))))))))))))) | exact rlt (And.right (And.right (And.right (And.right (And.right (And.right (And.right (And.right (And.right (And.right (And.right (And.right (And.right (And.right (by assumption))))))))))))))) | exact rgt (And.right (And.right (And.right (And.right (And.right (And.right (And.right (And.right (And.right (And.right (And.right (And.right (And.right (And.right (by assumption))))))))))))))) | exact rne (And.right (And.right (And.right (And.right (And.right (And.right (And.right (And.right (And.right (And.right (And.right (And.right (And.right (And.right (by assumption))))))))))))))) | exact ren (And.right (And.right (And.right (And.right (And.right (And.right (And.right (And.right (And.right (And.right (And.right (And.right (And.right (And.right (by assumption))))))))))))))) | exact qlt (And.right (And.right (And.right (And.right (And.right (And.right (And.right (And.right (And.right (And.right (And.right (And.right (And.right (And.right (And.right (by assumption)))))))))))))))) | exact qgt (And.right (And.right (And.right (And.right (And.right (And.right (And.right (And.right (And.right (And.right (And.right (And.right (And.right (And.right (And.right (by assumption)))))))))))))))) | exact qne (And.right (And.right (And.right (And.right (And.right (And.right (And.right (And.right (And.right (And.right (And.right (And.right (And.right (And.right (And.right (by assumption)))))))))))))))) | exact qen (And.right (And.right (And.right (And.right (And.right (And.right (And.right (And.right (And.right (And.right (And.right (And.right (And.right (And.right (And.right (by assumption)))))))))))))))) | exact rlt (And.right (And.right (And.right (And.right (And.right (And.right (And.right (And.right (And.right (And.right (And.right (And.right (And.right (And.right (And.right (by assumption)))))))))))))))) | exact rgt (And.right (And.right (And.right (And.right (And.right (And.right (And.right (And.right (And.right (And.right (And.right (And.right (And.right (And.right (And.right (by assumption)))))))))))))))) | exact rne (And.right (And.right (And.right (And.right (And.right (And.right (And.right (And.right (And.right (And.right (And.right (And.right (And.right (And.right (And.right (by assumption)))))))))))))))) | exact ren (And.right (And.right (And.right (And.right (And.right (And.right (And.right (And.right (And.right (And.right (And.right (And.right (And.right (And.right (And.right (by assumption))))))))))))))))))
  trivial
theorem layR062 : True := by
  k_with "mine texts" => ((try dsimp only [← sx0, ← sx1, ← sx2, ← sx3, ← sx4, ← sx5, ← sx6, ← sx7, ← sx8, ← sx9, ← sx10, ← sx11, ← sx12, ← sx13, ← sx14, ← sx15, ← sx16, ← sx17, ← sx18, ← sx19, ← sx20, ← sx21, ← sx22, ← sx23, ← sx24, ← sx25, ← sx26, ← sx27, ← sx28, ← sx29, ← sx30, ← sx31, ← sx32, ← sx33, ← sx34, ← sx35, ← sx36, ← sx37, ← sx38, ← sx39, ← sx40, ← sx41, ← sx42, ← sx43, ← sx44, ← sx45, ← sx46, ← sx47, ← sx48, ← sx49, ← sx50, ← sx51, ← sx52, ← sx53, ← sx54, ← sx55, ← sx56, ← sx57, ← sx58, ← sx59, ← sx60, ← sx61, ← sx62, ← sx63, ← sx64, ← sx65, ← sx66, ← sx67, ← sx68, ← sx69, ← sx70, ← sx71, ← sx72, ← sx73, ← sx74, ← sx75, ← sx76, ← sx77, ← sx78, ← sx79, ← sx80, ← sx81, ← sx82, ← sx83, ← sx84, ← sx85, ← sx86, ← sx87, ← sx88, ← sx89, ← sx90, ← sx91, ← sx92, ← sx93, ← sx94, ← sx95, ← sx96, ← sx97, ← sx98, ← sx99, ← sx100, ← sx101, ← sx102, ← sx103, ← sx104, ← sx105, ← sx106, ← sx107, ← sx108, ← sx109, ← sx110, ← sx111, ← sx112, ← sx113, ← sx114]))
  k_with "mine drop" => (first | (refine' Drop.head ?a; (case a => k_all)) | (refine' Drop.tail ?a ?b; (case a => k_ne); (case b => walk_at "mine drop")))
  k_with "setAttr ref" => ((k_here; k_dflt (first | (refine' exc_set0 ?k1 ?k2 ?k3 ?k4 ?k5 ?k6 ?k7 ?k8 ?k9 ?_; (case k1 => k_asm); (case k2 => k_asm); (case k3 => k_asm); (case k4 => k_mem); (case k5 => k_is); (case k6 => kernel_rfl); (case k7 => k_is); (case k8 => k_is); (case k9 => intro zqd; k_upd); k_whole; intro zqdp zqhp zqFp zqNp zql1; (try k_lt zql1)) | (refine' exc_set_args ?k1 ?k2 ?k3 ?k4 ?k5 ?k6 ?k7 ?k8 ?k9 ?k10 ?_; (case k1 => k_asm); (case k2 => k_asm); (case k3 => k_asm); (case k4 => first | (refine' InstAt.of_exc ?N ?h1 ?h2; (case N => k_asm); (case h1 => k_mem); (case h2 => k_mem)) | (refine' InstAt.of_exc0 ?N ?h1; (case N => k_asm); (case h1 => k_mem))); (case k5 => exact isTup_of (by k_asm) (by k_mem)); (case k6 => k_is); (case k7 => kernel_rfl); (case k8 => k_is); (case k9 => k_is); (case k10 => k_upd); k_whole; intro zqhp zqFp zqNp) | (refine' exc_set ?k1 ?k2 ?k3 ?k4 ?k5 ?k6 ?k7 ?k8 ?k9 ?k10 ?k11 ?k12 ?_; (case k1 => k_asm); (case k2 => k_asm); (case k3 => k_asm); (case k4 => first | (refine' InstAt.of_exc ?N ?h1 ?h2; (case N => k_asm); (case h1 => k_mem); (case h2 => k_mem)) | (refine' InstAt.of_exc0 ?N ?h1; (case N => k_asm); (case h1 => k_mem))); (case k5 => k_is); (case k6 => kernel_rfl); (case k7 => k_is); (case k8 => k_is); (case k9 => k_get); (case k10 => k_put); (case k11 => k_upd); (case k12 => exact Nat.le_of_ble_eq_true rfl); k_whole; intro zqhp zqFp zqNp))))
  k_with "call builtin:Exception.__init__" => ((k_here; k_dflt (refine' exc_init_call ?k1 ?k2 ?k3 ?k4 ?k5 ?k6 ?_; (case k1 => k_asm); (case k2 => k_asm); (case k3 => k_asm); (case k4 => first | (refine' InstAt.of_exc ?N ?h1 ?h2; (case N => k_asm); (case h1 => k_mem); (case h2 => k_mem)) | (refine' InstAt.of_exc0 ?N ?h1; (case N => k_asm); (case h1 => k_mem))); (case k5 => k_is); (case k6 => intro zqt; k_upd); k_whole; intro zqtp zqhp zqFp zqNp zql1; (try k_lt zql1))))
  k_with "call builtin:repr" => ((k_here; k_dflt (refine' repr_use ?k1 ?k2 ?k3 ?k4 ?k5 ?k6 ?k7 ?_; (case k1 => assumption); (case k2 => k_asm); (case k3 => k_asm); (case k4 => exact rfl); (case k5 => exact rfl); (case k6 => exact Nat.le_of_ble_eq_true rfl); (case k7 => exact Nat.le_of_ble_eq_true rfl); k_whole; intro zqhp zqup zqtkp zqFp zqNp)))
  k_with "BackIn" => ((k_dflt (refine' back_ ?k1 ?k2 ?k3 ?_; (case k1 => k_asm); (case k2 => k_asm); (case k3 => walk_at "mine drop"); k_whole; intro zqFp zqNp; (try dsimp only))))
  k_with "call ref" => ((k_here; k_dflt (refine wpAny_call ?_; refine' enter_in ?k1 ?k2 ?k3 ?k4 ?k5 ?k6 ?k7 ?k8 ?kB ?c2 ?c3 ?c4 ?c5 ?_; (case k1 => k_asm); (case k2 => k_asm); (case k3 => k_asm); (case k4 => exact Top.nolimit (by assumption)); (case k5 => k_is); (case k6 => k_is); (case k7 => exact Nat.le_of_ble_eq_true rfl); (case k8 => first | ((with_reducible show BindsTo _ _ ⟨[_], []⟩ _); first | exact BindsTo.of_eq (binds := [(_, _)]) rfl | exact binds_K (binds := [(_, _)]) (by k_in) rfl (by k_is) rfl rfl rfl) | ((with_reducible show BindsTo _ _ ⟨[_, _], []⟩ _); first | exact BindsTo.of_eq (binds := [(_, _), (_, _)]) rfl | exact binds_K (binds := [(_, _), (_, _)]) (by k_in) rfl (by k_is) rfl rfl rfl) | ((with_reducible show BindsTo _ _ ⟨[_, _, _], []⟩ _); first | exact BindsTo.of_eq (binds := [(_, _), (_, _), (_, _)]) rfl | exact binds_K (binds := [(_, _), (_, _), (_, _)]) (by k_in) rfl (by k_is) rfl rfl rfl) | ((with_reducible show BindsTo _ _ ⟨[_, _, _, _], []⟩ _); first | exact BindsTo.of_eq (binds := [(_, _), (_, _), (_, _), (_, _)]) rfl | exact binds_K (binds := [(_, _), (_, _), (_, _), (_, _)]) (by k_in) rfl (by k_is) rfl rfl rfl) | ((with_reducible show BindsTo _ _ ⟨[_, _, _, _, _], []⟩ _); first | exact BindsTo.of_eq (binds := [(_, _), (_, _), (_, _), (_, _), (_, _)]) rfl | exact binds_K (binds := [(_, _), (_, _), (_, _), (_, _), (_, _)]) (by k_in) rfl (by k_is) rfl rfl rfl)); (case c5 => decide); (case kB => exact locs rfl); (case c2 => exact rfl); (case c3 => exact rfl); (case c4 => exact rfl); k_whole; intro zqoLp zqLp zqhp zqtkp zqFp zqNp zql1 zqn1; (try k_lt zql1); (try (replace zqn1 := allNe_of zqn1; simp only [AllNe, and_true] at zqn1)); (try dsimp only); walk_at "mine texts")))
  k_with "call builtin:str.join" => ((k_here; (with_reducible show wpAny _ _ (call (Value.builtin "str.join") [Value.str _ _, Value.ref _]) _ _ _); k_dflt (refine join_listC (by is_list) (by repeat constructor) (by decide) (by (simp only [List.map_cons, List.map_nil, List.sum_cons, List.sum_nil, List.length_cons, List.length_nil]; omega)) ?_); intro zqtp zqkp))
  k_with "getMethod type:Exception" => ((k_here; refine' method_type ?F ?X ?m (by decide +kernel) ?e ?h ?_; (case F => k_asm); (case X => k_asm); (case m => exact meta_Exception); (case e => k_dflt k_is); (case h => k_handed)))
  k_with "compareOp IsNot" => ((k_here; k_dflt (refine isNot_none (by assumption) ?_)))
  k_with "call builtin:str.format" => ((k_here; k_dflt (refine' line_use ?k1 ?k2 ?k3 ?k4 ?k5 ?k6 ?k7 ?_; (case k1 => assumption); (case k2 => k_asm); (case k3 => k_asm); (case k4 => exact rfl); (case k5 => exact rfl); (case k6 => exact Nat.le_of_ble_eq_true rfl); (case k7 => exact Nat.le_of_ble_eq_true rfl); k_whole; intro zqhp zqup zqtkp zqFp zqNp)))
  k_with "call builtin:str.format" => ((k_here; (with_reducible show wpAny _ _ (call (Value.builtin "str.format") [Value.str _ _, _, _, _, _]) _ _ _); k_dflt (refine' fmt_use ?k1 ?k2 ?k3 ?k4 ?k5 ?_; (case k1 => k_asm); (case k2 => k_asm); (case k3 => exact ⟨rfl, rfl, Nat.le_of_ble_eq_true rfl, Nat.le_of_ble_eq_true rfl⟩); (case k4 => exact args_5 _ _ _ _ _); (case k5 => walk_at "mine fmt")); k_whole; intro zqhp zqup zqtkp zqFp zqNp))
  k_with "pyReprObj" => ((k_here; k_dflt (refine' reprObj_use ?k1 ?k2 ?k3 ?k4 ?k5 ?k6 ?k7 ?_; (case k1 => assumption); (case k2 => k_asm); (case k3 => k_asm); (case k4 => exact rfl); (case k5 => exact rfl); (case k6 => exact Nat.le_of_ble_eq_true rfl); (case k7 => exact Nat.le_of_ble_eq_true rfl); k_whole; intro zqhp zqup zqtkp zqFp zqNp)))
  trivial
theorem halt_ {P : Prop} (h : Halt P) : P := h
theorem layR063 : True := by
  k_with "pyIter ref" => ((k_here; refine halt_ ?_))
  k_with "exec For" => ((k_here; (rename Fr _ _ _ _ => lF'); (with_unfolding_all refine' For_turns lF' ?_); k_whole))
  k_with "BackIn" => ((refine halt_ ?_))
  k_with "InvPost" => ((refine halt_ ?_))
  k_with "binaryOp Mult ref int" => ((k_here; k_dflt (refine' mul3 ?k1 ?k2 ?k3 ?_; (case k1 => k_asm); (case k2 => k_asm); (case k3 => k_mem); k_whole; intro zqDp zqhp zqFp zqNp)))
  k_with "subscriptTail Name UnaryOp ref int" => ((refine halt_ ?_))
  k_with "subscriptTail Name Constant ref int" => ((refine halt_ ?_))
  k_with "subscriptTail Name Name ref int" => ((refine halt_ ?_))
  k_with "subscriptTail Name Slice ref ref" => ((refine halt_ ?_))
  k_with "call type:str" => ((k_here; k_dflt (refine' str6_led ?k1 ?k2 ?k3 ?k4 ?ke ?ka ?kb ?kc ?_; (case k1 => k_asm); (case k2 => assumption); (case k3 => assumption); (case k4 => k_asm); (case ke => exact ErrIn.sub (by with_reducible assumption) (by intro zqq zqhq; repeat (first | exact zqhq | apply List.mem_cons_of_mem))); (case ka => exact rfl); (case kb => exact Nat.le_of_ble_eq_true rfl); (case kc => exact Nat.le_of_ble_eq_true rfl); k_whole; intro zqhp zqup zqtkp zqFp zqNp)))
  k_with "call builtin:repr" => ((k_here; k_dflt (refine' repr6_led ?k1 ?k2 ?k3 ?k4 ?ke ?kl ?ka ?kg ?kb ?kc ?_; (case k1 => k_asm); (case k2 => assumption); (case k3 => assumption); (case k4 => k_asm); (case ke => exact ErrIn.sub (by with_reducible assumption) (by intro zqq zqhq; repeat (first | exact zqhq | apply List.mem_cons_of_mem))); (case kl => assumption); (case ka => exact rfl); (case kg => exact rfl); (case kb => exact Nat.le_of_ble_eq_true rfl); (case kc => exact Nat.le_of_ble_eq_true rfl); k_whole; intro zqhp zqup zqtkp zqFp zqNp)))
  k_with "call builtin:isinstance" => ((refine halt_ ?_))
  k_with "getAttr ref" => ((k_here; (with_reducible show wpAny _ _ (getAttr _ (PySem.Str.ofString "message") _) _ _ _); k_dflt (refine' msg6_led ?k1 ?k2 ?k4 ?ke ?_; (case k1 => k_asm); (case k2 => assumption); (case k4 => k_asm); (case ke => exact ErrIn.sub (by with_reducible assumption) (by intro zqq zqhq; repeat (first | exact zqhq | apply List.mem_cons_of_mem))); k_whole; intro zqup)))
  k_with "getAttr ref" => (((with_reducible show wpAny _ _ (getAttr _ (PySem.Str.ofString "args") _) _ _ _); (refine halt_ ?_)))
  k_with "compareOp NotEq ref ref" => ((k_here; k_dflt (refine' txt3_ne ?k1 ?k2 ?k3 ?k4 ?_; (case k1 => k_asm); (case k2 => k_mem); (case k3 => k_mem); (case k4 => ke_room))))
  k_with "assign Tuple" => ((k_here; (with_reducible show wpAny _ _ (assign (Expr.Tuple _ _ _) _ (Value.ref _)) _ _ _); k_dflt (refine' kun_list ?k1 ?k2 ?k3 ?k4 ?k5 ?k6 ?_; (case k1 => k_asm); (case k2 => k_asm); (case k3 => with_reducible assumption); (case k4 => exact rfl); (case k5 => exact rfl); (case k6 => exact rfl); k_whole); intro zqhp zqFp zqNp))
  trivial
theorem right06 : ∀ {p : Program} {loose : List Str} {mean : ExcName → Option Value} {mg mb : Str → Option Value} {w : World} {E : Value → Shared → Prop} {s : Shared} {h₀ : Heap} {L : Addr} {m : Str → Option Value} {news : List (Addr × Obj)} {ta e0 : Addr} {tv : List Value} {tn : Nat} {Q : Value → Shared → Prop}
    (F : Fr h₀ L s.heap m) (KX : (hz.heap_178 w.params).In h₀) (T : Top p loose mean mg mb h₀) (N : News h₀ L s.heap news) (hr : (ta, listOf tv.toArray tn) ∈ news) (ht : Tower news tv (.ref e0)) (hl : tv.length ≤ 100)
    (hQ : ∀ h' tk, Fr h₀ L h' m → News h₀ L h' news → Q (.bool true) { s with heap := h', toks := tk }),
    wpAny (model PySem.Challenge.rw_dm0028_06.prog w) (AD 500 1500) (call (.ref 198) [.ref ta]) Q E s := by
  w_top off
  k_fill
  intro p loose mean mg mb w E s h₀ L m news ta e0 tv tn Q F KX T N hr ht hl hQ
  obtain ⟨hh, g, dr, tk, os⟩ := s
  dsimp only at F N hQ
  w_strict (
  refine wpAny_call ?_
  k_dflt (refine' enter_in F KX N T.nolimit ?k5 ?k6 ?k7 ?k8 ?kB ?c2 ?c3 ?c4 ?c5 ?_; (case k5 => k_is); (case k6 => k_is); (case k7 => exact Nat.le_of_ble_eq_true rfl); (case k8 => first | exact BindsTo.of_eq (binds := [(_, _)]) rfl | exact binds_K (binds := [(_, _)]) (KX.keeps F.keep) rfl (by k_is) rfl rfl rfl); (case c5 => decide); (case kB => exact locs rfl); (case c2 => exact rfl); (case c3 => exact rfl); (case c4 => exact rfl))
  intro oL L' h' tk' F' N' l1 l2
  clear F N
  walk_at "mine texts"
  k_steps
  unfold Halt
  obtain ⟨us, v0, r, wd, pl, n1, t1, t2, rfl, ht0, hrow, herr, hwl⟩ := ht.lastR
  with_reducible rename Fr _ _ _ _ => F1
  with_reducible rename News _ _ _ _ => N1
  refine item_neg (vs := us) N1 (.tail _ hr) (by rw [List.length_append, List.length_singleton] at hl; omega) ?_
  k_steps
  unfold Halt
  refine item_pos (vs := [.ref e0, .str wd t1, .int (pl : Int) t2]) N1 (.tail _ hrow) 0 rfl rfl (Nat.le_of_ble_eq_true rfl) ?_
  k_steps
  unfold Halt
  with_reducible rename Fr _ _ _ _ => F2
  with_reducible rename News _ _ _ _ => N2
  have hul : (us ++ [Value.ref r]).length ≤ 100 := hl
  refine krv_lit (s := ⟨_, _, _, _, _⟩) (zs := (us ++ [Value.ref r]).reverse) F2 N2 (News.isList N2 (.tail _ hr)) (IsPart.int _ _) (by rw [List.toList_toArray]) ?_ (by with_unfolding_all rfl) (by intro _; with_unfolding_all rfl) (by rw [sizeLine_eq, List.size_toArray]; omega)
  intro D3 h3 F3 N3 l3
  clear F2 N2
  k_steps
  unfold Halt
  with_reducible rename Fr _ _ _ _ => F4
  with_reducible rename News _ _ _ _ => N4
  have htop : Tower news (us ++ [.ref r]) (.ref e0) := ht
  generalize hTV : us ++ [Value.ref r] = tv at *
  refine turns_idx (fun i m₁ => ∃ v, Tower news (tv.take (tv.length - i)) v ∧ m₁ (Str.ofString "below") = some v) rfl (.head _) F4 N4 ⟨.ref e0, by rw [Nat.sub_zero, List.take_length]; exact htop, by with_unfolding_all rfl⟩ ?zturn ?zdone
  case zdone =>
    rintro m₁ h5 tk5 ⟨v, hv, hb⟩ F5 N5
    clear F4 N4
    rw [List.length_reverse, Nat.sub_self, List.take_zero] at hv
    obtain ⟨ts, rfl⟩ := hv.nil_inv rfl
    replace F5 := fr_names [(Str.ofString "below", _)] (List.forall_mem_cons.mpr ⟨hb, List.forall_mem_nil _⟩) F5
    dsimp only [kstB] at F5
    k_steps
    unfold Halt
    with_reducible rename Fr _ _ _ _ => F6
    with_reducible rename News _ _ _ _ => N6
    rw [show (Str.ofString "s" == Str.ofString "s") = true by decide +kernel]
    intro hb6
    exact hQ _ _ (hb6 _ (N6 _ (.tail _ (.head _))).1 F6.keep) (fun p hp => ⟨(N6 p (.tail _ (.tail _ hp))).1, l2 p hp, (N6 p (.tail _ (.tail _ hp))).2.2⟩)
  case zturn =>
    rintro i v m₁ h5 tk5 own hv ⟨v', ht', hb⟩ F5 N5
    clear F4 N4
    obtain ⟨v0, r5, e5, wd5, pl5, n5, t15, t25, rfl, rfl, ht0', hrow5, herr5, hwl5⟩ := Tower.at hv ht'
    replace F5 := fr_names [(Str.ofString "below", _)] (List.forall_mem_cons.mpr ⟨hb, List.forall_mem_nil _⟩) F5
    dsimp only [kstB] at F5
    refine gen5 (news := news) N5 (fun p hp => List.mem_append_left _ (.tail _ (.tail _ hp))) ?_
    clear N5
    intro led N5 hx5 hsub
    have hIL := News.isList N5 (hsub _ hrow5)
    have hE5 := herr5.sub hsub
    k_steps
    unfold Halt
    with_reducible rename Fr _ _ _ _ => F6
    with_reducible rename News _ _ _ _ => N6
    refine args6_led F6 (by assumption) N6 (hE5.sub (fun q hq => by repeat (first | exact hq | apply List.mem_cons_of_mem))) ?_
    intro ta6 xs6 hta6 hh6 hx6
    k_steps
    unfold Halt
    rcases hh6 with hxs | ⟨tp, ts, hxs, htp⟩
    · refine item_tup6 N6 hta6 hxs hx6 ?_
      k_steps
      unfold Halt
      with_reducible rename Fr _ _ _ _ => F7
      with_reducible rename News _ _ _ _ => N7
      rcases ht0'.top with ⟨ts7, rfl⟩ | ⟨e7, w7, p7, v7, rfl, he7⟩
      · refine isi_str6 (K := KP w) (Frag.In.keeps (by assumption) F7.keep) (by kernel_rfl) ?_
        intro tk7
        k_steps
        unfold Halt
        with_reducible rename Fr _ _ _ _ => F9
        with_reducible rename News _ _ _ _ => N9
        exact InvEnd.intro F9 N9 (fun p hp => by
          have hq := hx5 p hp
          repeat (first | exact hq | apply List.mem_cons_of_mem)) ⟨_, ht0', by with_unfolding_all rfl⟩
      · refine isi_err6 (Frag.In.keeps (by assumption) F7.keep) N7 ((he7.sub hsub).sub (fun q hq => by repeat (first | exact hq | apply List.mem_cons_of_mem))) ?_
        intro tk7
        k_steps
        unfold Halt
        with_reducible rename Fr _ _ _ _ => F9
        with_reducible rename News _ _ _ _ => N9
        exact InvEnd.intro F9 N9 (fun p hp => by
          have hq := hx5 p hp
          repeat (first | exact hq | apply List.mem_cons_of_mem)) ⟨_, ht0', by with_unfolding_all rfl⟩
    · refine item_tup6 N6 hta6 hxs hx6 ?_
      k_steps
      unfold Halt
      with_reducible rename Fr _ _ _ _ => F7
      with_reducible rename News _ _ _ _ => N7
      refine isi_tup6 (K := KP w) (Frag.In.keeps (by assumption) F7.keep) N7 htp (by kernel_rfl) ?_
      intro tk7
      k_steps
      unfold Halt
      refine item_tup6 (k := 0) N7 htp rfl (Nat.le_of_ble_eq_true rfl) ?_
      k_steps
      unfold Halt
      with_reducible rename Fr _ _ _ _ => F9
      with_reducible rename News _ _ _ _ => N9
      exact InvEnd.intro F9 N9 (fun p hp => by
        have hq := hx5 p hp
        repeat (first | exact hq | apply List.mem_cons_of_mem)) ⟨_, ht0', by with_unfolding_all rfl⟩
)
end
section
open PySem.SeqAt
theorem lay15 : True := by
  k_with_none
  k_with "ne" => (with_reducible (first | exact ns1 | exact ns2 | exact qlt (by assumption) | exact qgt (by assumption) | exact qne (by assumption) | exact qen (by assumption) | exact rlt (by assumption) | exact rgt (by assumption) | exact rne (by assumption) | exact ren (by assumption) | exact qlt (And.right (by assumption)) | exact qgt (And.right (by assumption)) | exact qne (And.right (by assumption)) | exact qen (And.right (by assumption)) | exact rlt (And.right (by assumption)) | exact rgt (And.right (by assumption)) | exact rne (And.right (by assumption)) | exact ren (And.right (by assumption)) | exact qlt (And.right (And.right (by assumption))) | exact qgt (And.right (And.right (by assumption))) | exact qne (And.right (And.right (by assumption))) | exact qen (And.right (And.right (by assumption))) | exact rlt (And.right (And.right (by assumption))) | exact rgt (And.right (And.right (by assumption))) | exact rne (And.right (And.right (by assumption))) | exact ren (And.right (And.right (by assumption))) | exact qlt (And.right (And.right (And.right (by assumption)))) | exact qgt (And.right (And.right (And.right (by assumption)))) | exact qne (And.right (And.right (And.right (by assumption)))) | exact qen (And.right (And.right (And.right (by assumption)))) | exact rlt (And.right (And.right (And.right (by assumption)))) | exact rgt (And.right (And.right (And.right (by assumption)))) | exact rne (And.right (And.right (And.right (by assumption)))) | exact ren (And.right (And.right (And.right (by assumption)))) | exact qlt (And.right (And.right (And.right (And.right (by assumption))))) | exact qgt (And.right (And.right (And.right (And.right (by assumption))))) | exact qne (And.right (And.right (And.right (And.right (by assumption))))) | exact qen (And.right (And.right (And.right (And.right (by assumption))))) | exact rlt (And.right (And.right (And.right (And.right (by assumption))))) | exact rgt (And.right (And.right (And.right (And.right (by assumption))))) | exact rne (And.right (And.right (And.right (And.right (by assumption))))) | exact ren (And.right (And.right (And.right (And.right (by assumption))))) | exact qlt (And.right (And.right (And.right (And.right (And.right (by assumption)))))) | exact qgt (And.right (And.right (And.right (And.right (And.right (by assumption)))))) | exact qne (And.right (And.right (And.right (And.right (And.right (by assumption)))))) | exact qen (And.right (And.right (And.right (And.right (And.right (by assumption)))))) | exact rlt (And.right (And.right (And.right (And.right (And.right (by assumption)))))) | exact rgt (And.right (And.right (And.right (And.right (And.right (by assumption)))))) | exact rne (And.right (And.right (And.right (And.right (And.right (by assumption)))))) | exact ren (And.right (And.right (And.right (And.right (And.right (by assumption)))))) | exact qlt (And.right (And.right (And.right (And.right (And.right (And.right (by assumption))))))) | exact qgt (And.right (And.right (And.right (And.right (And.right (And.right (by assumption))))))) | exact qne (And.right (And.right (And.right (And.right (And.right (And.right (by assumption))))))) | exact qen (And.right (And.right (And.right (And.right (And.right (And.right (by assumption))))))) | exact rlt (And.right (And.right (And.right (And.right (And.right (And.right (by assumption))))))) | exact rgt (And.right (And.right (And.right (And.right (And.right (And.right (by assumption))))))) | exact rne (And.right (And.right (And.right (And.right (And.right (And.right (by assumption))))))) | exact ren (And.right (And.right (And.right (And.right (And.right (And.right (by assumption))))))) | exact qlt (And.right (And.right (And.right (And.right (And.right (And.right (And.right (by assumption)))))))) | exact qgt (And.right (And.right (And.right (And.right (And.right (And.right (And.right (by assumption)))))))) | exact qne (And.right (And.right (And.right (And.right (And.right (And.right (And.right (by assumption)))))))) | exact qen (And.right (And.right (And.right (And.right (And.right (And.right (And.right (by assumption)))))))) | exact rlt (And.right (And.right (And.right (And.right (And.right (And.right (And.right (by assumption)))))))) | exact rgt (And.right (And.right (And.right (And.right (And.right (And.right (And.right (by assumption)))))))) | exact rne (And.right (And.right (And.right (And.right (And.right (And.right (And.right (by assumption)))))))) | exact ren (And.right (And.right (And.right (And.right (And.right (And.right (And.right (by assumption)))))))) | exact qlt (And.right (And.right (And.right (And.right (And.right (And.right (And.right (And.right (by assumption))))))))) | exact qgt (And.right (And.right (And.right (And.right (And.right (And.right (And.right (And.right (by assumption))))))))) | exact qne (And.right (And.right (And.right (And.right (And.right (And.right (And.right (And.right (by assumption))))))))) | exact qen (And.right (And.right (And.right (And.right (And.right (And.right (And.right (And.right (by assumption))))))))) | exact rlt (And.right (And.right (And.right (And.right (And.right (And.right (And.right (And.right (by assumption))))))))) | exact rgt (And.right (And.right (And.right (And.right (And.right (And.right (And.right (And.right (by assumption))))))))) | exact rne (And.right (And.right (And.right (And.right (And.right (And.right (And.right (And.right (by assumption))))))))) | exact ren (And.right (And.right (And.right (And.right (And.right (And.right (And.right (And.right (by assumption))))))))) | exact qlt (And.right (And.right (And.right (And.right (And.right (And.right (And.right (And.right (And.right (by assumption)))))))))) | exact qgt (And.right (And.right (And.right (And.right (And.right (And.right (And.right (And.right (And.right (by assumption)))))))))) | exact qne (And.right (And.right (And.right (And.right (And.right (And.right (And.right (And.right (And.right (by assumption)))))))))) | exact qen (And.right (And.right (And.right (And.right (And.right (And.right (And.right (And.right (And.right (by assumption)))))))))) | exact rlt (And.right (And.right (And.right (And.right (And.right (And.right (And.right (And.right (And.right (by assumption)))))))))) | exact rgt (And.right (And.right (And.right (And.right (And.right (And.right (And.right (And.right (And.right (by assumption)))))))))) | exact rne (And.right (And.right (And.right (And.right (And.right (And.right (And.right (And.right (And.right (by assumption)))))))))) | exact ren (And.right (And.right (And.right (And.right (And.right (And.right (And.right (And.right (And.right (by assumption)))))))))) | exact qlt (And.right (And.right (And.right (And.right (And.right (And.right (And.right (And.right (And.right (And.right (by assumption))))))))))) | exact qgt (And.right (And.right (And.right (And.right (And.right (And.right (And.right (And.right (And.right (And.right (by assumption))))))))))) | exact qne (And.right (And.right (And.right (And.right (And.right (And.right (And.right (And.right (And.right (And.right (by assumption))))))))))) | exact qen (And.right (And.right (And.right (And.right (And.right (And.right (And.right (And.right (And.right (And.right (by assumption))))))))))) | exact rlt (And.right (And.right (And.right (And.right (And.right (And.right (And.right (And.right (And.right (And.right (by assumption))))))))))) | exact rgt (And.right (And.right (And.right (And.right (And.right (And.right (And.right (And.right (And.right (And.right (by assumption))))))))))) | exact rne (And.right (And.right (And.right (And.right (And.right (And.right (And.right (And.right (And.right (And.right (by assumption))))))))))) | exact ren (And.right (And.right (And.right (And.right (And.right (And.right (And.right (And.right (And.right (And.right (by assumption))))))))))) | exact qlt (And.right (And.right (And.right (And.right (And.right (And.right (And.right (And.right (And.right (And.right (And.right (by assumption)))))))))))) | exact qgt (And.right (And.right (And.right (And.right (And.right (And.right (And.right (And.right (And.right (And.right (And.right (by assumption)))))))))))) | exact qne (And.right (And.right (And.right (And.right (And.right (And.right (And.right (And.right (And.right (And.right (And.right (by assumption)))))))))))) | exact qen (And.right (And.right (And.right (And.right (And.right (And.right (And.right (And.right (And.right (And.right (And.right (by assumption)))))))))))) | exact rlt (And.right (And.right (And.right (And.right (And.right (And.right (And.right (And.right (And.right (And.right (And.right (by assumption)))))))))))) | exact rgt (And.right (And.right (And.right (And.right (And.right (And.right (And.right (And.right (And.right (And.right (And.right (by assumption)))))))))))) | exact rne (And.right (And.right (And.right (And.right (And.right (And.right (And.right (And.right (And.right (And.right (And.right (by assumption)))))))))))) | exact ren (And.right (And.right (And.right (And.right (And.right (And.right (And.right (And.right (And.right (And.right (And.right (by assumption)))))))))))) | exact qlt (And.right (And.right (And.right (And.right (And.right (And.right (And.right (And.right (And.right (And.right (And.right (And.right (by assumption))))))))))))) | exact qgt (And.right (And.right (And.right (And.right (And.right (And.right (And.right (And.right (And.right (And.right (And.right (And.right (by assumption))))))))))))) | exact qne (And.right (And.right (And.right (And.right (And.right (And.right (And.right (And.right (And.right (And.right (And.right (And.right (by assumption))))))))))))) | exact qen (And.right (And.right (And.right (And.right (And.right (And.right (And.right (And.right (And.right (And.right (And.right (And.right (by assumption))))))))))))) | exact rlt (And.right (And.right (And.right (And.right (And.right (And.right (And.right (And.right (And.right (And.right (And.right (And.right (by assumption))))))))))))) | exact rgt (And.right (And.right (And.right (And.right (And.right (And.right (And.right (And.right (And.right (And.right (And.right (And.right (by assumption))))))))))))) | exact rne (And.right (And.right (And.right (And.right (And.right (And.right (And.right (And.right (And.right (And.right (And.right (And.right (by assumption))))))))))))) | exact ren (And.right (And.right (And.right (And.right (And.right (And.right (And.right (And.right (And.right (And.right (And.right (And.right (by assumption))))))))))))) | exact qlt (And.right (And.right (And.right (And.right (And.right (And.right (And.right (And.right (And.right (And.right (And.right (And.right (And.right (by assumption)))))))))))))) | exact qgt (And.right (And.right (And.right (And.right (And.right (And.right (And.right (And.right (And.right (And.right (And.right (And.right (And.right (by assumption)))))))))))))) | exact qne (And.right (And.right (And.right (And.right (And.right (And.right (And.right (And.right (And.right (And.right (And.right (And.right (And.right (by assumption)))))))))))))) | exact qen (And.right (And.right (And.right (And.right (And.right (And.right (And.right (And.right (And.right (And.right (And.right (And.right (And.right (by assumption)))))))))))))) | exact rlt (And.right (And.right (And.right (And.right (And.right (And.right (And.right (And.right (And.right (And.right (And.right (And.right (And.right (by assumption)))))))))))))) | exact rgt (And.right (And.right (And.right (And.right (And.right (And.right (And.right (And.right (And.right (And.right (And.right (And.right (And.right (by assumption)))))))))))))) | exact rne (And.right (And.right (And.right (And.right (And.right (And.right (And.right (And.right (And.right (And.right (And.right (And.right (And.right (by assumption)))))))))))))) | exact ren (And.right (And.right (And.right (And.right (And.right (And.right (And.right (And.right (And.right (And.right (And.right (And.right (And.right (by assumption)))))))))))))) | exact qlt (And.right (And.right (And.right (And.right (And.right (And.right (And.right (And.right (And.right (And.right (And.right (And.right (And.right (And.right (by assumption))))))))))))))) | exact qgt (And.right (And.right (And.right (And.right (And.right (And.right (And.right (And.right (And.right (And.right (And.right (And.right (And.right (And.right (by assumption))))))))))))))) | exact qne (And.right (And.right (And.right (And.right (And.right (And.right (And.right (And.right (And.right (And.right (And.right (And.right (And.right (And.right (by assumption))))))))))))))) | exact qen (And.right (And.right (And.right (And.right (And.right (And.right (And.right (And.right (And.right (And.right (And.right (And.right (And.right (And.right (by assumption))))))))))))))) | exact rlt (And.right (And.right (And.right (And.right (And.right (And.right (And.right (And.right (And.right (And.right (And.right (And.right (And.right (And.right (by assumption))))))))))))))) | exact rgt (And.right (And.right (And.right (And.right (And.right (And.right (And.right (And.right (And.right (And.right (And.right (And.right (And.right (And.right (by assumption))))))))))))))) | exact rne (And.right (And.right (And.right (And.right (And.right (And.right (And.right (And.right (And.right (And.right (And.right (And.right (And.right (And.right (by assumption))))))))))))))) | exact ren (And.right (And.right (And.right (And.right (And.right (And.right (And.right (And.right (And.right (And.right (And.right (And.right (And.right (And.right (by assumption))))))))))))))) | exact qlt (And.right (And.right (And.right (And.right (And.right (And.right (And.right (And.right (And.right (And.right (And.right (And.right (And.right (And.right (And.right (by assumption)))))))))))))))) | exact qgt (And.right (And.right (And.right (And.right (And.right (And.right (And.right (And.right (And.right (And.right (And.right (And.right (And.right (And.right (And.right (by assumption)))))))))))))))) | exact qne (And.right (And.right (And.right (And.right (And.right (And.right (And.right (And.right (And.right (And.right (And.right (And.right (And.right (And.right (And.right (by assumption)))))))))))))))) | exact qen (And.right (And.right (And.right (And.right (And.right (And.right (And.right (And.right (And.right (And.right (And.right (And.right (And.right (And.right (And.right (by assumption)))))))))))))))) | exact rlt (And.right (And.right (And.right (And.right (And.right (And.right (And.right (And.right (And.right (And.right (And.right (And.right (And.right (And.right (And.right (by assumption)))))))))))))))) | exact rgt (And.right (And.right (And.right (And.right (And.right (And.right (And.right (And.right (And.right (And.right (And.right (And.right (And.right (And.right (And.right (by assumption)))))))))))))))) | exact rne (And.right (And.right (And.right (And.right (And.right (And.right (And.right (And.right (And.right (And.right (And.right (And.right (And.right (And.right (And.right (by assumption)))))))))))))))) | exact ren (And.right (And.right (And.right (And.right (And.right (And.right (And.right (And.right (And.right (And.right (And.right (And.right (And.right (And.right (And.right (by assumption))))))))))))))))))
  trivial
theorem lay16 : True := by
  k_with "mine texts" => ((try dsimp only [← sx0, ← sx1, ← sx2, ← sx3, ← sx4, ← sx5, ← sx6, ← sx7, ← sx8, ← sx9, ← sx10, ← sx11, ← sx12, ← sx13, ← sx14, ← sx15, ← sx16, ← sx17, ← sx18, ← sx19, ← sx20, ← sx21, ← sx22, ← sx23, ← sx24, ← sx25, ← sx26, ← sx27, ← sx28, ← sx29, ← sx30, ← sx31, ← sx32, ← sx33, ← sx34, ← sx35, ← sx36, ← sx37, ← sx38, ← sx39, ← sx40, ← sx41, ← sx42, ← sx43, ← sx44, ← sx45, ← sx46, ← sx47, ← sx48, ← sx49, ← sx50, ← sx51, ← sx52, ← sx53, ← sx54, ← sx55, ← sx56, ← sx57, ← sx58, ← sx59, ← sx60, ← sx61, ← sx62, ← sx63, ← sx64, ← sx65, ← sx66, ← sx67, ← sx68, ← sx69, ← sx70, ← sx71, ← sx72, ← sx73, ← sx74, ← sx75, ← sx76, ← sx77, ← sx78, ← sx79, ← sx80, ← sx81, ← sx82, ← sx83, ← sx84, ← sx85, ← sx86, ← sx87, ← sx88, ← sx89, ← sx90, ← sx91, ← sx92, ← sx93, ← sx94, ← sx95, ← sx96, ← sx97, ← sx98, ← sx99, ← sx100, ← sx101, ← sx102, ← sx103, ← sx104, ← sx105, ← sx106, ← sx107, ← sx108, ← sx109, ← sx110, ← sx111, ← sx112, ← sx113, ← sx114]))
  k_with "mine drop" => (first | (refine' Drop.head ?a; (case a => k_all)) | (refine' Drop.tail ?a ?b; (case a => k_ne); (case b => walk_at "mine drop")))
  k_with "setAttr ref" => ((k_here; k_dflt (first | (refine' exc_set0 ?k1 ?k2 ?k3 ?k4 ?k5 ?k6 ?k7 ?k8 ?k9 ?_; (case k1 => k_asm); (case k2 => k_asm); (case k3 => k_asm); (case k4 => k_mem); (case k5 => k_is); (case k6 => kernel_rfl); (case k7 => k_is); (case k8 => k_is); (case k9 => intro zqd; k_upd); k_whole; intro zqdp zqhp zqFp zqNp zql1; (try k_lt zql1)) | (refine' exc_set_args ?k1 ?k2 ?k3 ?k4 ?k5 ?k6 ?k7 ?k8 ?k9 ?k10 ?_; (case k1 => k_asm); (case k2 => k_asm); (case k3 => k_asm); (case k4 => first | (refine' InstAt.of_exc ?N ?h1 ?h2; (case N => k_asm); (case h1 => k_mem); (case h2 => k_mem)) | (refine' InstAt.of_exc0 ?N ?h1; (case N => k_asm); (case h1 => k_mem))); (case k5 => exact isTup_of (by k_asm) (by k_mem)); (case k6 => k_is); (case k7 => kernel_rfl); (case k8 => k_is); (case k9 => k_is); (case k10 => k_upd); k_whole; intro zqhp zqFp zqNp) | (refine' exc_set ?k1 ?k2 ?k3 ?k4 ?k5 ?k6 ?k7 ?k8 ?k9 ?k10 ?k11 ?k12 ?_; (case k1 => k_asm); (case k2 => k_asm); (case k3 => k_asm); (case k4 => first | (refine' InstAt.of_exc ?N ?h1 ?h2; (case N => k_asm); (case h1 => k_mem); (case h2 => k_mem)) | (refine' InstAt.of_exc0 ?N ?h1; (case N => k_asm); (case h1 => k_mem))); (case k5 => k_is); (case k6 => kernel_rfl); (case k7 => k_is); (case k8 => k_is); (case k9 => k_get); (case k10 => k_put); (case k11 => k_upd); (case k12 => exact Nat.le_of_ble_eq_true rfl); k_whole; intro zqhp zqFp zqNp))))
  k_with "call builtin:Exception.__init__" => ((k_here; k_dflt (refine' exc_init_call ?k1 ?k2 ?k3 ?k4 ?k5 ?k6 ?_; (case k1 => k_asm); (case k2 => k_asm); (case k3 => k_asm); (case k4 => first | (refine' InstAt.of_exc ?N ?h1 ?h2; (case N => k_asm); (case h1 => k_mem); (case h2 => k_mem)) | (refine' InstAt.of_exc0 ?N ?h1; (case N => k_asm); (case h1 => k_mem))); (case k5 => k_is); (case k6 => intro zqt; k_upd); k_whole; intro zqtp zqhp zqFp zqNp zql1; (try k_lt zql1))))
  k_with "call builtin:repr" => ((k_here; k_dflt (refine' repr_use ?k1 ?k2 ?k3 ?k4 ?k5 ?k6 ?k7 ?_; (case k1 => assumption); (case k2 => k_asm); (case k3 => k_asm); (case k4 => exact rfl); (case k5 => exact rfl); (case k6 => exact Nat.le_of_ble_eq_true rfl); (case k7 => exact Nat.le_of_ble_eq_true rfl); k_whole; intro zqhp zqup zqtkp zqFp zqNp)))
  k_with "BackIn" => ((k_dflt (refine' back_ ?k1 ?k2 ?k3 ?_; (case k1 => k_asm); (case k2 => k_asm); (case k3 => walk_at "mine drop"); k_whole; intro zqFp zqNp; (try dsimp only))))
  k_with "call ref" => ((k_here; k_dflt (refine wpAny_call ?_; refine' enter_in ?k1 ?k2 ?k3 ?k4 ?k5 ?k6 ?k7 ?k8 ?kB ?c2 ?c3 ?c4 ?c5 ?_; (case k1 => k_asm); (case k2 => k_asm); (case k3 => k_asm); (case k4 => exact Top.nolimit (by assumption)); (case k5 => k_is); (case k6 => k_is); (case k7 => exact Nat.le_of_ble_eq_true rfl); (case k8 => first | ((with_reducible show BindsTo _ _ ⟨[_], []⟩ _); first | exact BindsTo.of_eq (binds := [(_, _)]) rfl | exact binds_K (binds := [(_, _)]) (by k_in) rfl (by k_is) rfl rfl rfl) | ((with_reducible show BindsTo _ _ ⟨[_, _], []⟩ _); first | exact BindsTo.of_eq (binds := [(_, _), (_, _)]) rfl | exact binds_K (binds := [(_, _), (_, _)]) (by k_in) rfl (by k_is) rfl rfl rfl) | ((with_reducible show BindsTo _ _ ⟨[_, _, _], []⟩ _); first | exact BindsTo.of_eq (binds := [(_, _), (_, _), (_, _)]) rfl | exact binds_K (binds := [(_, _), (_, _), (_, _)]) (by k_in) rfl (by k_is) rfl rfl rfl) | ((with_reducible show BindsTo _ _ ⟨[_, _, _, _], []⟩ _); first | exact BindsTo.of_eq (binds := [(_, _), (_, _), (_, _), (_, _)]) rfl | exact binds_K (binds := [(_, _), (_, _), (_, _), (_, _)]) (by k_in) rfl (by k_is) rfl rfl rfl) | ((with_reducible show BindsTo _ _ ⟨[_, _, _, _, _], []⟩ _); first | exact BindsTo.of_eq (binds := [(_, _), (_, _), (_, _), (_, _), (_, _)]) rfl | exact binds_K (binds := [(_, _), (_, _), (_, _), (_, _), (_, _)]) (by k_in) rfl (by k_is) rfl rfl rfl)); (case c5 => decide); (case kB => exact locs rfl); (case c2 => exact rfl); (case c3 => exact rfl); (case c4 => exact rfl); k_whole; intro zqoLp zqLp zqhp zqtkp zqFp zqNp zql1 zqn1; (try k_lt zql1); (try (replace zqn1 := allNe_of zqn1; simp only [AllNe, and_true] at zqn1)); (try dsimp only); walk_at "mine texts")))
  k_with "call builtin:str.join" => ((k_here; (with_reducible show wpAny _ _ (call (Value.builtin "str.join") [Value.str _ _, Value.ref _]) _ _ _); k_dflt (refine join_listC (by is_list) (by repeat constructor) (by decide) (by (simp only [List.map_cons, List.map_nil, List.sum_cons, List.sum_nil, List.length_cons, List.length_nil]; omega)) ?_); intro zqtp zqkp))
  k_with "getMethod type:Exception" => ((k_here; refine' method_type ?F ?X ?m (by decide +kernel) ?e ?h ?_; (case F => k_asm); (case X => k_asm); (case m => exact meta_Exception); (case e => k_dflt k_is); (case h => k_handed)))
  k_with "compareOp IsNot" => ((k_here; k_dflt (refine isNot_none (by assumption) ?_)))
  k_with "call builtin:str.format" => ((k_here; k_dflt (refine' line_use ?k1 ?k2 ?k3 ?k4 ?k5 ?k6 ?k7 ?_; (case k1 => assumption); (case k2 => k_asm); (case k3 => k_asm); (case k4 => exact rfl); (case k5 => exact rfl); (case k6 => exact Nat.le_of_ble_eq_true rfl); (case k7 => exact Nat.le_of_ble_eq_true rfl); k_whole; intro zqhp zqup zqtkp zqFp zqNp)))
  k_with "call builtin:str.format" => ((k_here; (with_reducible show wpAny _ _ (call (Value.builtin "str.format") [Value.str _ _, _, _, _, _]) _ _ _); k_dflt (refine' fmt_use ?k1 ?k2 ?k3 ?k4 ?k5 ?_; (case k1 => k_asm); (case k2 => k_asm); (case k3 => exact ⟨rfl, rfl, Nat.le_of_ble_eq_true rfl, Nat.le_of_ble_eq_true rfl⟩); (case k4 => exact args_5 _ _ _ _ _); (case k5 => walk_at "mine fmt")); k_whole; intro zqhp zqup zqtkp zqFp zqNp))
  k_with "pyReprObj" => ((k_here; k_dflt (refine' reprObj_use ?k1 ?k2 ?k3 ?k4 ?k5 ?k6 ?k7 ?_; (case k1 => assumption); (case k2 => k_asm); (case k3 => k_asm); (case k4 => exact rfl); (case k5 => exact rfl); (case k6 => exact Nat.le_of_ble_eq_true rfl); (case k7 => exact Nat.le_of_ble_eq_true rfl); k_whole; intro zqhp zqup zqtkp zqFp zqNp)))
  trivial
def Stop6 (P : Prop) : Prop := P
theorem stop6 {P : Prop} (h : Stop6 P) : P := h
def Go06 : Prop := True
def Wide06 : Prop := True
theorem lay17 : True := by
  k_with "exec For Name BinOp cons nil" => ((k_here; (rename Fr _ _ _ _ => lF'); (with_unfolding_all refine' For_invVF lF' ?k1 ?k2 ?_; (case k1 => exact rfl); (case k2 => exact rfl); k_whole)))
  k_with "pyIter ref" => (((fail_if_success (with_reducible rename Go06 => hgo)); (with_reducible refine stop6 ?_)))
  k_with "call ref" => ((k_here; (with_reducible show wpAny _ _ (call (Value.ref 59) [_]) _ _ _); k_dflt (refine' err_use (fun Q E hQ => conNS _ _ _ _ (by exact rep_str (by decide +kernel)) Q E (by k_in) (Top.keeps (by assumption) (Fr.keep (by k_asm))) hQ) ?k1 ?k2 ?k3 ?k4 ?k5 ?k6 ?_; (case k1 => k_asm); (case k2 => k_asm); (case k3 => exact rfl); (case k4 => exact rfl); (case k5 => exact Nat.le_of_ble_eq_true rfl); (case k6 => exact Nat.le_of_ble_eq_true rfl); k_whole; intro zqhp zqtkp zqep zqdp zqtap zqodp zqup zqFp zqNp zqn1 zqn2 zqn3 zqhm zqhf; (try simp only [AllNe, and_true] at zqn1 zqn2 zqn3); (have hl0 := zqhf _ (.head _)); (dsimp only at hl0); clear zqhf)))
  k_with "subscriptTail Name UnaryOp ref int" => ((refine stop6 ?_))
  k_with "subscriptTail Name Slice ref ref" => (((with_reducible rename Go06 => hgo); (refine stop6 ?_)))
  k_with "eval IfExp" => (((fail_if_success (with_reducible rename Wide06 => hv)); (refine stop6 ?_)))
  k_with "call ref" => (((with_reducible show wpAny _ _ (call (Value.ref 191) _) _ _ _); (refine stop6 ?_)))
  k_with "call ref" => (((with_reducible show wpAny _ _ (call (Value.ref 184) _) _ _ _); (refine stop6 ?_)))
  k_with "call ref" => (((with_reducible show wpAny _ _ (call (Value.ref 198) _) _ _ _); (refine stop6 ?_)))
  k_with "call builtin:list.append" => ((refine stop6 ?_))
  k_with "eval ListComp" => ((k_here; k_dflt (refine LCt.ListComp_T (F₀ := by k_asm) (by with_unfolding_all rfl) (by decide) (by rfl) (by decide) (by rfl) ?_)))
  k_with "CompSrcT" => ((refine stop6 ?_))
  k_with "compareOp Eq ref ref" => ((refine stop6 ?_))
  trivial
theorem foo : PySem.Challenge.rw_dm0028_06.Holds := by
  w_top off
  refine hz (by
    w_strict (
    k_fill
    intro w s₀ s₁ mg mb G y fa o pm cd doc dV kV ho hd hcd hD hmg hg args vals as L hpre hlay hrd hwl hlo
    have KX : (hz.heap_178 w.params).In _ := InK.keeps _ _ _ (z_facts (fun _ => by kernel_rfl) y).2.1 (Laid.keeps L)
    clear y
    k_behind G ho hd hcd hD hmg hpre hlay hrd hwl hlo cd
    (all_goals try k_fold)
    k_steps
    unfold Stop6
    with_reducible rename IntsAre _ (_ ++ [1]) => hI
    with_reducible rename Fr _ _ _ _ => lF
    with_reducible rename News _ _ _ _ => lN
    (with_reducible rename lookIn (Str.ofString "message") _ = _ => hmz)
    refine loop06 rfl hI (by simp; omega) (by decide +kernel) lF (start_news lN) (start_tow (fun v hv => nomatch hv) (.tail _ (.head _)) (.tail _ (.tail _ (.head _))) (.tail _ (.tail _ (.tail _ (.head _)))) (.tail _ (.tail _ (.tail _ (.tail _ (.head _))))) hmz) ?zne (Nat.ne_of_gt (by omega)) (.head _) ?zturn ?zdone
    case zne =>
      intro p hp
      simp only [List.mem_cons, List.not_mem_nil, or_false] at hp
      rcases hp with rfl | rfl | rfl | rfl | rfl <;> dsimp only
      · exact ⟨Nat.ne_of_gt (by omega), Nat.ne_of_gt (by omega)⟩
      · exact ⟨Nat.ne_of_lt (by omega), Nat.ne_of_lt (by omega)⟩
      · exact ⟨Nat.ne_of_lt (by omega), Nat.ne_of_lt (by omega)⟩
      · exact ⟨Nat.ne_of_lt (by omega), Nat.ne_of_lt (by omega)⟩
      · exact ⟨Nat.ne_of_lt (by omega), Nat.ne_of_lt (by omega)⟩
    case zdone =>
      intro m1 h1 tk1 led prev us ca r e0 wl tn cn hul hpl htow F1 N1
      clear lF lN
      have hgo : Go06 := trivial
      obtain ⟨base4, hbase4⟩ := base_of N1
      have hall := (htow.sub (news := base4) (fun p hp => by rw [hbase4]; exact .tail _ (.tail _ hp))).all (by rw [hbase4]; exact .tail _ (.head _)) (Nat.le_trans hul (by decide))
      k_steps
      unfold Stop6
      with_reducible rename Fr _ _ _ _ => F2
      with_reducible rename News _ _ _ _ => N2
      refine LCt.CompSrcT.ledger (by rfl) F2 N2 (.head _) (by rw [sizeLine_eq, List.size_toArray, List.length_append, List.length_singleton]; omega) ?_
      intro g4
      refine comp_none (.inr ⟨_, .head _, rfl, _, rfl⟩) ?zel ?zfin
      case zel =>
        intro i v I oI C oC D m2 hh tkk E' hi hC' hx' F' N' off' ne' Qc hQc
        clear F2 N2
        obtain ⟨ta7, tv7, n7, e7, rfl, hr7, ht7, hl7⟩ := hall v (List.mem_of_getElem? (by simpa using hi))
        rw [hbase4] at hr7 ht7
        k_steps
        unfold Stop6
        with_reducible rename Fr _ _ _ _ => F5
        with_reducible rename News _ _ _ _ => N5
        refine weaken rfl rfl (Nat.le_of_ble_eq_true rfl) (Nat.le_of_ble_eq_true rfl) (right06 F5 KX (by assumption) N5 (by repeat (first | exact hr7 | apply List.mem_cons_of_mem)) (ht7.sub (fun p hp => by repeat (first | exact hp | apply List.mem_cons_of_mem))) hl7 ?_)
        intro h6 tk6 F6 N6
        clear F5 N5
        k_steps
        exact hQc _ _ F6 N6
      case zfin =>
        intro D5 h5 tk5 F5 N5 off5
        dsimp only
        k_steps
        unfold Stop6
        with_reducible rename Fr _ _ _ _ => F6
        with_reducible rename News _ _ _ _ => N6
        refine eq_nil6 N6 (by k_mem) (by k_mem) (by ke_room) ?_
        k_steps
    case zturn =>
      intro n t u h1 tk1 rest own prev us ca r e0 wl tn cn hul hpl htow hne htc F1 N1 Qt hQt
      clear lF lN
      have hgo : Go06 := trivial
      obtain ⟨v0, pl, t1, t2, n5, htw, hrow, herr⟩ := id htow.row
      have hrow2 := List.mem_append_left own hrow
      k_steps
      unfold Stop6
      with_reducible rename Fr _ _ _ _ => F2
      with_reducible rename News _ _ _ _ => N2
      refine item_neg (vs := prev) N2 (by k_mem) (by omega) ?_
      k_steps
      unfold Stop6
      refine item_neg (vs := us) N2 (by k_mem) (by omega) ?_
      k_steps
      unfold Stop6
      with_reducible rename Fr _ _ _ _ => F3
      with_reducible rename News _ _ _ _ => N3
      refine row_two (s := ⟨_, _, _, _, _⟩) F3 N3 (by repeat (first | exact hrow2 | apply List.mem_cons_of_mem)) ?_
      intro D4 h4 F4 N4
      clear F3 N3
      k_steps
      unfold Stop6
      with_reducible rename Fr _ _ _ _ => F5
      with_reducible rename News _ _ _ _ => N5
      replace N5 := led2 (led := rest ++ own) N5 (by k_mem : (_, listOf (prev ++ [Value.ref ca]).toArray tn) ∈ _) (by k_mem : (_, listOf (us ++ [Value.ref r]).toArray cn) ∈ _) (fun p hp => by repeat (first | exact hp | apply List.mem_cons_of_mem))
      have hkn := Int.fmod_nonneg_of_pos (if n < 0 then -n else n) (b := 12) (by decide)
      have hkl := Int.fmod_lt_of_pos (if n < 0 then -n else n) (b := 12) (by decide)
      refine joinM_ e0 wl F5 N5 ?zja ?zjb
      case zja =>
        intro Qj hQj
        have hv : Wide06 := trivial
        k_steps
        all_goals (
          unfold Stop6
          (with_reducible rename Fr _ _ _ _ => F7)
          (with_reducible rename News _ _ _ _ => N7))
        · refine bear_use (fun Q E hQ => bearC w _ e0 wl _ hkn (by assumption) (rep6 F7 KX (by assumption) N7 (herr.sub (fun p hp => by have hq := List.mem_append_left own hp; repeat (first | exact hq | apply List.mem_cons_of_mem))) (Nat.le_trans htow.len (by decide))).1 (rep6 F7 KX (by assumption) N7 (herr.sub (fun p hp => by have hq := List.mem_append_left own hp; repeat (first | exact hq | apply List.mem_cons_of_mem))) (Nat.le_trans htow.len (by decide))).2 (Nat.le_trans htow.len (by decide)) Q E (KX.keeps F7.keep) (Top.keeps (by assumption) F7.keep) hQ) F7 N7 rfl rfl (Nat.le_of_ble_eq_true rfl) (Nat.le_of_ble_eq_true rfl) ?_
          intro h8 tk8 l8 e8 hd8 tl8 pl8 t81 t82 t83 n8 new8 F8 N8 hdj8 her8 hln8
          k_steps
          exact hQj _ _ _ _ _ _ _ _ _ _ _ _ F8 N8 hdj8 her8 hln8
        · refine bear_use (fun Q E hQ => dupC w _ e0 wl _ _ (by omega) (by omega) (rep6 F7 KX (by assumption) N7 (herr.sub (fun p hp => by have hq := List.mem_append_left own hp; repeat (first | exact hq | apply List.mem_cons_of_mem))) (Nat.le_trans htow.len (by decide))).1 (Nat.le_trans htow.len (by decide)) (Int.fmod_nonneg_of_pos _ (by decide)) (Int.fmod_lt_of_pos _ (by decide)) Q E (KX.keeps F7.keep) (Top.keeps (by assumption) F7.keep) hQ) F7 N7 rfl rfl (Nat.le_of_ble_eq_true rfl) (Nat.le_of_ble_eq_true rfl) ?_
          intro h8 tk8 l8 e8 hd8 tl8 pl8 t81 t82 t83 n8 new8 F8 N8 hdj8 her8 hln8
          k_steps
          exact hQj _ _ _ _ _ _ _ _ _ _ _ _ F8 N8 hdj8 her8 hln8
      clear F5 N5
      intro h8 tk8 l8 e8 hd8 tl8 pl8 t81 t82 t83 n8 new8 F8 N8 hdj8 her8 hln8
      have hA := hln8.1
      have hB := hln8.2
      have hC := htow.len
      dsimp only
      k_steps
      unfold Stop6
      with_reducible rename Fr _ _ _ _ => F9
      with_reducible rename News _ _ _ _ => N9
      refine item_neg (vs := prev) N9 (by k_mem) (by omega) ?_
      k_steps
      unfold Stop6
      with_reducible rename Fr _ _ _ _ => Fa
      with_reducible rename News _ _ _ _ => Na
      rename _ ∧ _ ∧ _ ∧ AllLt _ (new8 ++ _) => hlt
      have hne8 : ∀ p ∈ new8 ++ (rest ++ own), p.1 ≠ _ ∧ p.1 ≠ _ := fun p hp => by
        rcases List.mem_append.mp hp with hp | hp
        · exact ⟨Ne.symm (hdj8 p hp _ (.head _)), Ne.symm (hdj8 p hp _ (.tail _ (.head _)))⟩
        · exact hne p hp
      refine app6 Fa Na hlt hne8 htc (by rw [List.length_append, List.length_singleton]; omega) ?_
      intro hb Fb Nb
      clear Fa Na
      have hn1 : ∀ p ∈ new8, p.1 ≠ _ ∧ p.1 ≠ _ := fun p hp => hne8 p (List.mem_append_left _ hp)
      rw [← sapp] at her8
      k_steps
      · unfold Stop6
        with_reducible rename Fr _ _ _ _ => Fc
        with_reducible rename News _ _ _ _ => Nc
        (with_reducible rename lookIn (Str.ofString "message") _ = _ => hm3)
        rename _ ∧ _ ∧ _ ∧ _ ∧ _ ∧ _ ∧ _ ∧ AllLt _ (new8 ++ _) => hcb
        rename _ ∧ _ ∧ _ ∧ _ ∧ _ ∧ _ ∧ AllLt _ (new8 ++ _) => hr3
        rename _ ∧ _ ∧ _ ∧ AllNe _ (new8 ++ _) => hn13
        obtain ⟨a31, a32, a33, a34⟩ := hn13
        rename _ ∧ _ ∧ _ ∧ AllNe _ (new8 ++ _) => hn12
        obtain ⟨d31, d32, d33, d34⟩ := hn12
        rename _ ∧ _ ∧ _ ∧ AllNe _ (new8 ++ _) => hn11
        obtain ⟨e31, e32, e33, e34⟩ := hn11
        refine app_tow (tv := prev ++ [Value.ref ca]) (tn := tn) Fc Nc (Nat.ne_of_lt hcb.2.2.2.2.1) (Nat.ne_of_lt hr3.2.2.2.1) e31 d31 a31 htc (Nat.ne_of_lt hlt.2.1) (fun p hp => (hne8 p hp).1) (by rw [List.length_append, List.length_singleton]; omega) ?_
        intro hd Fd Nd
        clear Fc Nc
        k_steps
        with_reducible rename Fr _ _ _ _ => Fe
        with_reducible rename News _ _ _ _ => Ne6
        refine hQt _ _ _ (_ :: _ :: _ :: _ :: _ :: _ :: new8) (prev ++ [Value.ref ca]) [] _ _ _ _ _ _ Fe (fun z zs => by
            have hns : z ∉ stored06 := by
              intro h
              rw [List.contains_iff_mem.mpr h] at zs
              cases zs
            simp only [stored06, List.mem_cons, List.not_mem_nil, or_false, not_or] at hns
            obtain ⟨y1, y2, y3, y4, y5, y6, y7, y8, y9, y10, y11⟩ := hns
            simp only [if_neg y1, if_neg y2, if_neg y3, if_neg y4, if_neg y5, if_neg y6, if_neg y7, if_neg y8, if_neg y9, if_neg y10, if_neg y11, zs]
            rfl) Ne6 (start_tow (htow.all2 her8 (by omega) hul (fun p hp => List.mem_append_right _ hp) (fun p hp => List.mem_append_left _ (.tail _ (.tail _ (.tail _ (.tail _ (.tail _ (.tail _ hp))))))) (.tail _ (.tail _ (.tail _ (.tail _ (.tail _ (.head _)))))) (.head _)) (.tail _ (.head _)) (.tail _ (.tail _ (.head _))) (.tail _ (.tail _ (.tail _ (.head _)))) (.tail _ (.tail _ (.tail _ (.tail _ (.head _))))) hm3) ?zn1 ?zn2 (Nat.ne_of_lt hcb.2.2.2.2.1) ?zn4 (Nat.zero_le _) (by simp)
        case zn1 =>
          intro p hp
          simp only [List.mem_cons] at hp
          rcases hp with rfl | rfl | rfl | rfl | rfl | rfl | hp
          · exact ⟨Ne.symm htc, Nat.ne_of_lt hcb.2.2.2.2.2.1⟩
          · exact ⟨Nat.ne_of_gt hr3.2.2.2.1, Nat.ne_of_lt hcb.1⟩
          · exact ⟨Ne.symm e31, Nat.ne_of_lt hcb.2.1⟩
          · exact ⟨Ne.symm d31, Nat.ne_of_lt hcb.2.2.1⟩
          · exact ⟨Ne.symm a31, Nat.ne_of_lt hcb.2.2.2.1⟩
          · exact ⟨Nat.ne_of_gt hlt.2.1, Nat.ne_of_lt hcb.2.2.2.2.2.2.1⟩
          · exact ⟨(hn1 p hp).1, Nat.ne_of_lt (lt_mem hcb.2.2.2.2.2.2.2 p (List.mem_append_left _ hp))⟩
        case zn2 => exact fun p hp => Nat.ne_of_lt (lt_mem hcb.2.2.2.2.2.2.2 p (List.mem_append_right _ hp))
        case zn4 =>
          intro p hp q hq
          simp only [List.mem_cons] at hp
          rcases hp with rfl | rfl | rfl | rfl | rfl | rfl | hp
          · exact (hne q hq).2
          · exact Nat.ne_of_lt (lt_mem hr3.2.2.2.2.2.2 q (List.mem_append_right _ hq))
          · exact ne_mem e34 q (List.mem_append_right _ hq)
          · exact ne_mem d34 q (List.mem_append_right _ hq)
          · exact ne_mem a34 q (List.mem_append_right _ hq)
          · exact Nat.ne_of_lt (lt_mem hlt.2.2.2 q (List.mem_append_right _ hq))
          · exact hdj8 p hp q (.tail _ (.tail _ hq))
      · with_reducible rename Fr _ _ _ _ => Fc
        with_reducible rename News _ _ _ _ => Nc
        refine hQt _ _ _ (_ :: new8) prev (us ++ [Value.ref r]) _ _ e8 _ tn (cn + 1) Fc (fun z zs => by
            have hns : z ∉ stored06 := by
              intro h
              rw [List.contains_iff_mem.mpr h] at zs
              cases zs
            simp only [stored06, List.mem_cons, List.not_mem_nil, or_false, not_or] at hns
            obtain ⟨y1, y2, y3, y4, y5, y6, y7, y8, y9, y10, y11⟩ := hns
            simp only [if_neg y1, if_neg y2, if_neg y3, if_neg y4, if_neg y5, if_neg y6, if_neg y7, if_neg y8, if_neg y9, if_neg y10, if_neg y11, zs]
            rfl) Nc (htow.next her8 ?zl) (fun p hp => ?zp) (fun p hp => (hne p hp).2) htc (fun p hp q hq => ?zq) (by simp) (Nat.le_succ _)
        case zl => omega
        case zp =>
          rcases List.mem_cons.mp hp with rfl | hp
          · exact ⟨Nat.ne_of_gt hlt.2.1, Nat.ne_of_gt hlt.2.2.1⟩
          · exact hn1 p hp
        case zq =>
          rcases List.mem_cons.mp hp with rfl | hp
          · exact Nat.ne_of_lt (lt_mem hlt.2.2.2 q (List.mem_append_right _ hq))
          · exact hdj8 p hp q (.tail _ (.tail _ hq))
))
end
end Mine
end
theorem PySem.Challenge.cw_dm0028_06_holds : PySem.Challenge.rw_dm0028_06.Holds :=
  Mine.foo
