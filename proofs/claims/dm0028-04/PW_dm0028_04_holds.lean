import PyProof.Rows.All
import Wide.All
import OpenK.AllK
import Wide.FinOn
import PySem.Challenge.RW_dm0028_04
set_option Elab.async false
section
namespace Mine
section
variable {a b : Nat} {y : Prop}
theorem qlt (h : a < b ∧ y) : a ≠ b := Nat.ne_of_lt (h.1)
theorem rlt (h : a < b) : a ≠ b := Nat.ne_of_lt (h)
theorem qgt (h : b < a ∧ y) : a ≠ b := Nat.ne_of_gt (h.1)
theorem rgt (h : b < a) : a ≠ b := Nat.ne_of_gt (h)
theorem qne (h : a ≠ b ∧ y) : a ≠ b := h.1
theorem rne (h : a ≠ b) : a ≠ b := h
theorem qen (h : b ≠ a ∧ y) : a ≠ b := Ne.symm (h.1)
theorem ren (h : b ≠ a) : a ≠ b := Ne.symm (h)
theorem ns1 : a ≠ a + 1 := Nat.ne_of_lt (Nat.lt_succ_self _)
theorem ns2 : a + 1 ≠ a := Nat.ne_of_gt (Nat.lt_succ_self _)
end
end Mine
end
section
open PySem PySem.W PySem.Calls PyProof.Rows
set_option Elab.async false
set_option maxRecDepth 100000
set_option maxHeartbeats 4000000
namespace Mine
section
variable {prog : Program} {w : World} {A : Around} {R : Result → Shared → Prop} {h : Heap} {g : Array GenState} {d : Drawn} {t : Nat} {os : OsState}
variable {nm q : Str} {C N : Addr} {bs bm : List Value} {hdct : Bool} {sn : List Str} {sub : List Value} {ab : Bool} {col : Option Bool} {dd : Option Addr} {k0 k1 k2 k3 k5 : Option Value}

abbrev excObj (C : Addr) (d : Option Addr) (t : Addr) : Obj := ⟨.ref C, d, .fields #[.ref t, .none, .none, .none, .bool false, .none], #[]⟩
abbrev tupObj (vs : List Value) : Obj := { cls := .type "tuple", data := .seq vs.toArray }

theorem exc_new {rest : List Value} {kw : List (Str × Value)} (hC : h.get? C = some (excClassObj nm q C N bs bm hdct sn sub ab col dd k0 k1 k2 k3 k5 "Exception.__new__"))
    (hcB : (Value.ref C :: bm).contains (.type "Exception") = true) (hcA : (Value.ref C :: bm).contains (.type "AttributeError") = false) (hcN : (Value.ref C :: bm).contains (.type "NameError") = false)
    (hq : R (.ok (.ret (.ref (h.objs.size + 1)))) ⟨(h.push (tupObj rest)).push (excObj C none h.objs.size), g, d, t, os⟩) (hrest : rest.length ≤ sizeLine) :
    codeAny (model prog w) A (.builtin "Exception.__new__" ⟨.ref C :: rest, kw⟩) R ⟨h, g, d, t, os⟩ := by
  have F := PySem.F.excBase_Exception
  have hends := F.ends
  refine codeAny_builtinAt F.entry ?_
  unfold Builtin.«BaseException.__new__»
  refine PySem.wpAt_bind ?_
  show PySem.wpAt _ _ _ (stack >>= _) _ _ _
  refine PySem.wpAt_bind (PySem.wpAt_stack fun p below => PySem.wpAt_of_wpAny ?_)
  wp_walk
  refine PySem.wpAt_of_wpAny ?_
  rw [F.owner]
  repeat (first | with_reducible refine wpAny_madeHere_exc F.canon hC ?_ | with_reducible refine wpAny_loadPart_at hC ?_ | (with_reducible refine wpAny_isSubtype_exc hC ?_; first | rw [hcB] | rw [hcA] | rw [hcN]) | wp_step)
  show R _ _
  rw [Heap.size_push]
  exact hq

theorem exc_check_new {M : Model} {E : Value → Shared → Prop} {rest : List Value} {kw : List (Str × Value)} {Q : Unit → Shared → Prop} (hC : h.get? C = some (excClassObj nm q C N bs bm hdct sn sub ab col dd k0 k1 k2 k3 k5 "Exception.__new__"))
    (hcB : (Value.ref C :: bm).contains (.type "Exception") = true)
    (hq : Q () ⟨h, g, d, t, os⟩) : wpAny M A (checkBuiltinCall "Exception.__new__" ⟨.ref C :: rest, kw⟩) Q E ⟨h, g, d, t, os⟩ := by
  have F := PySem.F.excBase_Exception
  have hstar := F.noStar
  simp only [checkBuiltinCall, F.newKind, F.newSplit, F.newRow]
  repeat (first | refine wpAny_loadPart_at hC ?_ | (refine wpAny_isSubtype_exc hC ?_; rw [hcB]) | refine wpAny_staticBase_exc hC ?_ | refine wpAny_madeBy_exc hC ?_ | simp only [bne_self_eq_false, Bool.false_eq_true, if_false] | wp_step)
  exact hq
end
end Mine
end
section
open PySem PySem.W PySem.Calls PyProof.Rows
set_option Elab.async false
set_option maxRecDepth 100000
set_option maxHeartbeats 4000000
namespace Mine
section
variable {prog : Program} {w : World} {A : Around} {R : Result → Shared → Prop} {h : Heap} {g : Array GenState} {d : Drawn} {t : Nat} {os : OsState}
variable {nm q : Str} {C N : Addr} {bs bm : List Value} {hdct : Bool} {sn : List Str} {sub : List Value} {ab : Bool} {col : Option Bool} {dd : Option Addr} {k0 k1 k2 k3 k5 : Option Value}

theorem exc_make {rest : List Value} {kw : List (Str × Value)} {fI : Addr} (hC : h.get? C = some (excClassObj nm q C N bs bm hdct sn sub ab col dd k0 k1 k2 k3 k5 "Exception.__new__"))
    (hcB : (Value.ref C :: bm).contains (.type "Exception") = true) (hcA : (Value.ref C :: bm).contains (.type "AttributeError") = false) (hcN : (Value.ref C :: bm).contains (.type "NameError") = false)
    (call : Looks (model prog w) h (specialOf (.ref C) "__call__") (some (.builtin "type.__call__"))) (typ : Looks (model prog w) h (isInstance (.ref C) (.type "type")) true)
    (hi : Looks (model prog w) h (typeLookup (.ref C) "__init__") (some (.ref fI))) (hb : ∀ self, Looks (model prog w) h (bindSpecial (.ref fI) self) (.ref fI, [self])) (hrest : rest.length ≤ sizeLine)
    (hq : codeAny (model prog w) (A.under (.builtin "type.__call__" ⟨.ref C :: rest, kw⟩)) (.call (.ref fI) ⟨.ref (h.objs.size + 1) :: rest, kw⟩) (InitBack (h.objs.size + 1) R) ⟨(h.push (tupObj rest)).push (excObj C none h.objs.size), g, d, t, os⟩) :
    codeAny (model prog w) A (.call (.ref C) ⟨rest, kw⟩) R ⟨h, g, d, t, os⟩ := by
  refine codeAny_of_tree ?_
  show wpAny _ _ (callAny (.ref C) _) _ _ _
  refine nd_load hC ?_
  show wpAny _ _ (callAny.viaDunder (.ref C) _) _ _ _
  unfold callAny.viaDunder
  refine wpAny_bind (call.at ?_)
  dsimp only
  rw [tc_bind]
  refine wpAny_bind (wpAny_pure (wpAny_bind (wpAny_pure ?_)))
  refine wpAny_pure (a := Fin.again (.call (.builtin "type.__call__") ⟨.ref C :: rest, kw⟩)) (And.intro rfl ?_)
  refine codeAny_call_builtin_at (Code.quiet_builtin _ (by decide +kernel)) entry_typeCall (check_slot tc_kind tc_split typ (tc_args _ _ _) ?_)
  unfold Builtin.«type.__call__»
  have hm : Looks (model prog w) h (mroOf (.ref C)) (.ref C :: bm) := ((Looks.ld (part := none) hC).andThen .now).andThen .now
  have made : Looks (model prog w) h (Bind.madeBy (.ref C)) (some "Exception.__new__") := by
    intro A Q E s k q
    obtain ⟨hh, g, d, t, os⟩ := s
    exact wpAny_madeBy_exc (k _ _ hC) q
  repeat (first | with_reducible refine wpAny_call ?_ | lk)
  refine codeAny_call_builtin_code (Code.quiet_builtin _ PySem.F.excBase_Exception.quiet) (exc_check_new hC hcB ?_)
  refine exc_new hC hcB hcA hcN ?_ hrest
  have k : ∀ b o, h.get? b = some o → ((h.push (tupObj rest)).push (excObj C none h.objs.size)).get? b = some o := fun b o e => Heap.get?_push_of_some _ (Heap.get?_push_of_some _ e)
  have hx : ((h.push (tupObj rest)).push (excObj C none h.objs.size)).get? (h.objs.size + 1) = some (excObj C none h.objs.size) := by heap_get
  have t1 : Looks (model prog w) ((h.push (tupObj rest)).push (excObj C none h.objs.size)) (typeOf (.ref (h.objs.size + 1))) (.ref C) := (Looks.ld hx).andThen .now
  have s1 : Looks (model prog w) ((h.push (tupObj rest)).push (excObj C none h.objs.size)) (isSubtype (.ref C) (.ref C)) true := by
    intro A Q E s k' q
    obtain ⟨hh, g, d, t, os⟩ := s
    exact wpAny_isSubtype_exc (k' _ _ (k _ _ hC)) (by rw [show (Value.ref C :: bm).contains (.ref C) = true from by simp]; exact q)
  have i1 := hi.keeps k
  have b1 := (hb (.ref (h.objs.size + 1))).keeps k
  unfold isInstance callSpecial? specialOf
  repeat (first | with_reducible refine wpAny_call ?_ | lk)
  refine codeAny_mono hq fun r s' z => ?_
  rcases r with e | (v | _ | _ | _) <;> first | exact z | exact z.elim | skip
  obtain ⟨rfl, z⟩ := z
  exact wpAny_pure (wpAny_pure z)
end
end Mine
end
section
open PySem PySem.W PySem.Calls PyProof.Rows PySem.Builtin PySem.Builtin.ObjectAttr
set_option Elab.async false
set_option maxRecDepth 100000
set_option maxHeartbeats 4000000
namespace Mine
def excTail : List Value → Bool
  | [.type a, .type b, .type c] => a == "Exception" && b == "BaseException" && c == "object"
  | .ref _ :: r => excTail r
  | _ => false
theorem refuse_base (self : Value) : refuseLoop self "__setattr__" [.type "Exception", .type "BaseException", .type "object"] = pure () := by kernel_rfl
theorem excTail_cases {l : List Value} (e : excTail l = true) : (∃ a b c, l = [.type a, .type b, .type c] ∧ a = "Exception" ∧ b = "BaseException" ∧ c = "object") ∨ (∃ a r, l = .ref a :: r ∧ excTail r = true) := by
  unfold excTail at e
  split at e
  · rename_i a b c
    simp only [Bool.and_eq_true, beq_iff_eq] at e
    exact .inl ⟨a, b, c, rfl, e.1.1, e.1.2, e.2⟩
  · rename_i a r; exact .inr ⟨a, r, rfl, e⟩
  · cases e
theorem refuse_exc (self : Value) : ∀ {l : List Value}, excTail l = true → refuseLoop self "__setattr__" l = pure ()
  | l, e => by
    rcases excTail_cases e with ⟨a, b, c, rfl, rfl, rfl, rfl⟩ | ⟨a, r, rfl, e'⟩
    · exact refuse_base self
    · rw [refuseLoop_ref]; exact refuse_exc self e'
termination_by l => l.length
theorem excTail_obj : ∀ {l : List Value}, excTail l = true → l.contains (.type "object") = true
  | l, e => by
    rcases excTail_cases e with ⟨a, b, c, rfl, rfl, rfl, rfl⟩ | ⟨a, r, rfl, e'⟩
    · decide
    · rw [List.contains_cons, excTail_obj e', Bool.or_true]
termination_by l => l.length
def excOver (K : Frag) (C : Addr) : Bool := (clsIn K C).any fun cd => excTail cd.mro

section
variable {prog : Program} {w : World} {A : Around} {K : Frag} {C x : Addr} {s : Shared} {h₀ : Heap} {L : Addr} {m : Str → Option Value} {news : List (Addr × Obj)} {R : Result → Shared → Prop}
theorem exc_osa_open {ox : Obj} {od : Option Obj} {name : Str} {tk : Tok} {v : Value} {r : Option Value} (X : K.In s.heap) (I : InstAt s.heap x ox C od) (hp : excOver K C = true) (ht : takerIn K C name = some r)
    (h : ∀ b, wpAny (model prog w) A.in1 (match r with | some a => setByDescriptor a (.ref x) v | none => storeInOwnDict (.ref x) (.ref C) (.str name tk) name v b)
      (fun fin s' => match fin with | .done f => R (.ok f) s' | .again c' => c'.quiet = true ∧ codeAny (model prog w) A c' R s') (fun e s' => R (.error e) s') s) :
    codeAny (model prog w) A (.call (.builtin "object.__setattr__") ⟨[.ref x, .str name tk, v], []⟩) R s := by
  have SF := PySem.F.store_object
  obtain ⟨cd, hc, ho⟩ := any_some hp
  have ne : cd.mro.isEmpty = false := by cases q : cd.mro with | nil => rw [q] at ho; cases ho | cons _ _ => rfl
  have sub : Looks (model prog w) s.heap (isInstance (.ref x) (.type "object")) true := I.type.andThen (looks_mroIn X (by unfold mroIn; rw [hc, Option.bind_some, if_neg (by rw [ne]; decide), excTail_obj ho]))
  refine codeAny_call_builtin SF.slot.plain SF.entry (@check_slot (model prog w) _ _ s "object.__setattr__" "object" "__setattr__" (.ref x) [.str name tk, v] [] _ SF.kind SF.split sub (SF.args (.ref x) (.str name tk) v) ?_)
  obtain ⟨attr, ha, hr⟩ := Option.bind_eq_some_iff.mp ht
  have hm : Looks (model prog w) s.heap (mroOf (.ref C)) cd.mro := (looks_clsIn X hc).andThen .now
  have L3 : Looks (model prog w) s.heap (storeTaker? attr) r := by
    cases attr with
    | none => cases hr; exact .now
    | some a =>
      obtain ⟨b, hb, rfl⟩ := Option.map_eq_some_iff.mp hr
      refine (looks_takesIn X hb).andThen ?_
      cases b <;> exact .now
  rw [osa_eq, refuse_eq]
  refine wpAny_bind (wpAny_bind (I.type.here (wpAny_bind (hm.here ?_))))
  rw [refuse_exc _ ho]
  refine wpAny_pure (wpAny_bind (I.type.here (wpAny_bind ((looks_findIn X ha).here (wpAny_bind (L3.here ?_))))))
  exact h _
end
end Mine
end
section
open PySem PySem.W PySem.Calls PyProof.Rows PySem.Builtin PySem.Builtin.ObjectAttr
set_option Elab.async false
set_option maxRecDepth 100000
set_option maxHeartbeats 4000000
namespace Mine
section
variable {prog : Program} {w : World} {A : Around} {E : Value → Shared → Prop} {K : Frag} {C x dx ta : Addr} {s : Shared} {h₀ : Heap} {L : Addr} {m : Str → Option Value} {news news' : List (Addr × Obj)} {R : Result → Shared → Prop}
theorem InstAt.of_exc {h : Heap} {od : Obj} (N : News h₀ L h news) (h1 : (x, excObj C (some dx) ta) ∈ news) (h2 : (dx, od) ∈ news) : InstAt h x (excObj C (some dx) ta) C (some od) := ⟨(N _ h1).1, rfl, rfl, (N _ h2).1⟩
theorem InstAt.of_exc0 {h : Heap} (N : News h₀ L h news) (h1 : (x, excObj C none ta) ∈ news) : InstAt h x (excObj C none ta) C none := ⟨(N _ h1).1, rfl, rfl, trivial⟩

/-- the store into an own dict that stands -/
theorem exc_osa_dict {od od' : Obj} {name : Str} {tk : Tok} {v : Value} {pre post : List (Addr × Obj)} {es : List DictEntry} {n : Nat} (F : Fr h₀ L s.heap m) (N : News h₀ L s.heap (pre ++ (dx, od) :: post)) (X : K.In s.heap)
    (I : InstAt s.heap x (excObj C (some dx) ta) C (some od)) (hp : excOver K C = true) (ht : takerIn K C name = some none) (hh : hasDictIn K C = true)
    (hl : (lookIn name od).isSome = true) (h1 : ∀ p ∈ pre, p.1 ≠ dx) (h2 : ∀ p ∈ post, p.1 ≠ dx)
    (e : Obj.putName name (PyData.keyHash w.params name) (.str name s.toks) v od = od') (e' : od'.data = .dict es.toArray n) (hz : es.length ≤ 1000)
    (h : ∀ h', Fr h₀ L h' m → News h₀ L h' (pre ++ (dx, od') :: post) → R (.ok (.ret .none)) { s with heap := h', toks := s.toks + 1 }) :
    codeAny (model prog w) A (.call (.builtin "object.__setattr__") ⟨[.ref x, .str name tk, v], []⟩) R s := by
  refine exc_osa_open X I hp ht fun b => ?_
  obtain ⟨cd, hc, hd'⟩ := any_some hh
  obtain ⟨U1, U2⟩ := news_upd (f := Obj.putName name (PyData.keyHash w.params name) (.str name s.toks) v) F N h1 h2 e (by obtain ⟨_, _, dd, _⟩ := od'; cases e'; rfl)
  have D := (N (dx, od) (by simp)).1
  have D' := (U2 (dx, od') (by simp)).1
  obtain ⟨hx, -, -, -⟩ := I
  refine wpAny_bind (wpAny_pure (wpAny_bind (wpAny_bind (wpAny_loadPart hx (wpAny_bind ((looks_clsIn X hc).here ?_))))))
  rw [hd']
  refine wpAny_pure (a := some dx) (wpAny_bind (wpAny_pure (wpAny_bind ?_)))
  unfold nsSet
  refine wpAny_bind (wpAny_bind (wpAny_askSetting (wpAny_pure (wpAny_bind (wpAny_mkText (wpAny_bind (wpAny_loadPart D ?_)))))))
  unfold lookIn at hl
  split at hl
  · rename_i es₀ n₀ q
    rw [q]
    dsimp only
    have c : (!es₀.any (·.key.isStr name) && es₀.any (·.refKey)) = false := by
      rw [← Array.any_toList, ← Array.any_toList]
      split at hl
      · rename_i en he
        rw [List.any_eq_true.mpr ⟨en, List.mem_of_find?_eq_some he, List.find?_some he⟩]; rfl
      · split at hl
        · cases hl
        · rename_i z; rw [Bool.not_eq_true] at z; rw [z, Bool.and_false]
    rw [aRefKeyMayBeTheName_at, c]
    refine wpAny_updatePart D ?_
    refine wpAny_bind (wpAny_lookBehind D' (by rw [e']; exact pastItsLine_dict (by rw [List.size_toArray, sizeLine_eq]; omega)) ?_)
    exact wpAny_pure (h _ U1 U2)
  · cases hl

theorem exc_set {es es' : List DictEntry} {n n' : Nat} {name : Str} {v : Value} {Q : Unit → Shared → Prop} (F : Fr h₀ L s.heap m) (X₀ : K.In h₀) (N : News h₀ L s.heap news) (I : InstAt s.heap x (excObj C (some dx) ta) C (some (dictOf es n)))
    (hs : findIn K (.ref C) "__setattr__" = some (some (.builtin "object.__setattr__"))) (hp : excOver K C = true) (ht : takerIn K C name = some none) (hh : hasDictIn K C = true) (hl : (getL name es).isSome = true)
    (e : (putL name (PyData.keyHash w.params name) (.str name (s.toks + 1)) v es, putN name es n) = (es', n')) (U : Upd dx (dictOf es n) (dictOf es' n') news news') (hz : es'.length ≤ 1000)
    (h : ∀ h', Fr h₀ L h' m → News h₀ L h' news' → Q () { s with heap := h', toks := s.toks + 2 }) :
    wpAny (model prog w) A (setAttr (.ref x) name v) Q E s := by
  obtain ⟨pre, post, rfl, rfl, a, b⟩ := U.split
  obtain ⟨e1, e2⟩ := Prod.mk.inj e
  exact set_plain (X₀.keeps F.keep) I hs (exc_osa_dict (s := { s with toks := s.toks + 1 }) F N (X₀.keeps F.keep) I hp ht hh hl a b (by rw [putName_dict, e1, e2]) rfl hz fun h' F' N' => h h' F' N')

/-- the first store makes the dict -/
theorem exc_set0 {news' : Addr → List (Addr × Obj)} {name : Str} {v : Value} {Q : Unit → Shared → Prop} (F : Fr h₀ L s.heap m) (X₀ : K.In h₀) (N : News h₀ L s.heap news) (hx : (x, excObj C none ta) ∈ news)
    (hs : findIn K (.ref C) "__setattr__" = some (some (.builtin "object.__setattr__"))) (hp : excOver K C = true) (ht : takerIn K C name = some none) (hh : hasDictIn K C = true)
    (U : ∀ d, Upd x (excObj C none ta) (excObj C (some d) ta) news (news' d))
    (h : ∀ d h', Fr h₀ L h' m → News h₀ L h' ((d, dictOf [⟨PyData.keyHash w.params name, .str name (s.toks + 1), v⟩] 1) :: news' d) → (∀ p ∈ news, p.1 < d) → Q () { s with heap := h', toks := s.toks + 2 }) :
    wpAny (model prog w) A (setAttr (.ref x) name v) Q E s := by
  have I := InstAt.of_exc0 N hx
  have X := X₀.keeps F.keep
  refine set_plain X I hs (exc_osa_open (s := { s with toks := s.toks + 1 }) X I hp ht fun b => ?_)
  obtain ⟨pre, post, e1, e2, a, b⟩ := (U s.heap.objs.size).split
  obtain ⟨cd, hc, hd'⟩ := any_some hh
  have hxx := I.at_
  refine wpAny_bind (wpAny_pure (wpAny_bind (wpAny_bind (wpAny_loadPart hxx (wpAny_bind (looks_clsIn X hc _ _ _ _ (fun _ _ e => e) ?_))))))
  rw [hd']
  have F1 := F.push emptyDict
  have N1 : News h₀ L (s.heap.push emptyDict) ((s.heap.objs.size, emptyDict) :: news) := N.push F emptyDict
  rw [e1] at N1
  have hlt : ∀ p ∈ news, p.1 < s.heap.objs.size := fun p hp => Heap.lt_size (N p hp).1
  have hxn : s.heap.objs.size ≠ x := fun z => absurd (hlt _ hx) (by rw [← z]; exact Nat.lt_irrefl _)
  obtain ⟨U1, U2⟩ := news_upd (pre := (s.heap.objs.size, emptyDict) :: pre) (f := fun o => { o with dict := some s.heap.objs.size }) F1 N1 (fun p hp => by rcases List.mem_cons.mp hp with rfl | hp; exact hxn; exact a p hp) b (o' := excObj C (some s.heap.objs.size) ta) rfl rfl
  refine wpAny_bind (wpAny_alloc (wpAny_bind (wpAny_update (Heap.get?_push_of_some _ hxx) ?_)))
  refine wpAny_pure (a := some s.heap.objs.size) (wpAny_bind (wpAny_pure (wpAny_bind ?_)))
  have D := (U2 (s.heap.objs.size, emptyDict) (by simp)).1
  have he : Obj.putName name (PyData.keyHash w.params name) (.str name (s.toks + 1)) v (dictOf [] 0) = dictOf [⟨PyData.keyHash w.params name, .str name (s.toks + 1), v⟩] 1 := by rw [putName_dict]; rfl
  obtain ⟨V1, V2⟩ := news_upd (pre := []) (d := s.heap.objs.size) (o := dictOf [] 0) (f := Obj.putName name (PyData.keyHash w.params name) (.str name (s.toks + 1)) v) U1 U2 (fun _ hp => nomatch hp)
    (fun p hp => by
      rcases List.mem_append.mp hp with hp | hp
      · exact Nat.ne_of_lt (hlt p (by rw [e1]; exact List.mem_append.mpr (.inl hp)))
      · rcases List.mem_cons.mp hp with rfl | hp
        · exact Ne.symm hxn
        · exact Nat.ne_of_lt (hlt p (by rw [e1]; exact List.mem_append.mpr (.inr (.tail _ hp))))) he rfl
  have D' := (V2 (s.heap.objs.size, dictOf [⟨PyData.keyHash w.params name, .str name (s.toks + 1), v⟩] 1) (.head _)).1
  unfold nsSet
  refine wpAny_bind (wpAny_bind (wpAny_askSetting (wpAny_pure (wpAny_bind (wpAny_mkText (wpAny_bind (wpAny_loadPart D ?_)))))))
  dsimp only
  have c : (!(#[] : Array DictEntry).any (·.key.isStr name) && (#[] : Array DictEntry).any (·.refKey)) = false := by simp
  rw [aRefKeyMayBeTheName_at, c]
  refine wpAny_updatePart D ?_
  refine wpAny_bind (wpAny_lookBehind D' (pastItsLine_dict (by rw [List.size_toArray, sizeLine_eq]; simp)) ?_)
  refine wpAny_pure (h s.heap.objs.size _ V1 ?_ hlt)
  rw [e2]
  exact V2
end
end Mine
end
section
open PySem PySem.W PySem.Calls PyProof.Rows PySem.Builtin PySem.Builtin.ObjectAttr PySem.Builtin.Getset_descriptor
set_option Elab.async false
set_option maxRecDepth 100000
set_option maxHeartbeats 4000000
namespace Mine
theorem entry_gss : entryFor table "getset_descriptor.__set__" = some Builtin.«getset_descriptor.__set__» := entryFor_of_tree (by kernel_rfl)
theorem entry_ba_set : entryFor table "BaseException.args#set" = some Builtin.«BaseException.args#set» := entryFor_of_tree (by kernel_rfl)
theorem args_gss (a b c : Value) : argsOk "getset_descriptor.__set__" ⟨[a, b, c], []⟩ := by unfold argsOk; kernel_rfl
theorem owner_bargs : descrOwnerAndName "BaseException.args" = ("BaseException", "args") := by unfold descrOwnerAndName; rw [show "BaseException.args".cutAt '.' = ["BaseException", "args"] from by first | rfl | decide +kernel]; decide +kernel
section
variable {prog : Program} {w : World} {A : Around} {E : Value → Shared → Prop} {K : Frag} {C x dx ta tv : Addr} {s : Shared} {h₀ : Heap} {L : Addr} {m : Str → Option Value} {news news' : List (Addr × Obj)} {R : Result → Shared → Prop} {d : Option Addr} {news'' : Addr → List (Addr × Obj)}

theorem exc_put {Q : Unit → Shared → Prop} (F : Fr h₀ L s.heap m) (N : News h₀ L s.heap news) (U : Upd x (excObj C d ta) (excObj C d tv) news news')
    (h : ∀ h', Fr h₀ L h' m → News h₀ L h' news' → Q () { s with heap := h' }) : wpAny (model prog w) A (Builtin.BaseException.bexcPut (.ref x) 0 (.ref tv)) Q E s := by
  obtain ⟨pre, post, rfl, rfl, a, b⟩ := U.split
  obtain ⟨U1, U2⟩ := news_upd (f := Obj.mapFields (·.setIfInBounds 0 (.ref tv))) F N a b (o' := excObj C d tv) rfl rfl
  have hx : s.heap.get? x = some (excObj C d ta) := (N (x, excObj C d ta) (by simp)).1
  unfold Builtin.BaseException.bexcPut
  refine wpAny_bind (wpAny_field hx rfl (x := .ref ta) rfl (wpAny_bind (wpAny_setField hx rfl (show 0 < 6 by decide) ?_)))
  exact wpAny_letGo (h _ U1 U2)

theorem exc_set_args {its : Array Value} {od : Option Obj} {Q : Unit → Shared → Prop} (F : Fr h₀ L s.heap m) (X₀ : K.In h₀) (N : News h₀ L s.heap news) (I : InstAt s.heap x (excObj C d ta) C od) (ht : s.heap.IsTuple tv its)
    (hs : findIn K (.ref C) "__setattr__" = some (some (.builtin "object.__setattr__"))) (hp : excOver K C = true) (hk : takerIn K C "args" = some (some (.builtin "BaseException.args"))) (hB : subIn K (.ref C) (.type "BaseException") = some true)
    (U : Upd x (excObj C d ta) (excObj C d tv) news news')
    (h : ∀ h', Fr h₀ L h' m → News h₀ L h' news' → Q () { s with heap := h', toks := s.toks + 1 }) : wpAny (model prog w) A (setAttr (.ref x) "args" (.ref tv)) Q E s := by
  have X := X₀.keeps F.keep
  refine set_plain X I hs (exc_osa_open (s := { s with toks := s.toks + 1 }) X I hp hk fun b => ?_)
  have S := PySem.F.slot_gs_set
  have hty : typeOf (.builtin "BaseException.args") = pure (.type "getset_descriptor") := PySem.F.typeOf_bexc_args
  refine wpAny_bind (wpAny_rule (wpAny_bind (wpAny_holding (wpAny_bind (wpAny_bind ((Looks.of_pure hty) _ _ _ _ (fun _ _ e => e) ((Looks.of_pure S.lookup) _ _ _ _ (fun _ _ e => e) (wpAny_holding ?_))))))))
  rw [S.bind]
  refine wpAny_bind (wpAny_pure (wpAny_bind (wpAny_call ?_)))
  have hT : ({ s with toks := s.toks + 1 } : Shared).TypeIs (.builtin "BaseException.args") "getset_descriptor" := PySem.F.typeOf_bexc_args
  refine codeAny_call_builtin S.plain entry_gss (S.check _ _ _ _ _ _ _ _ hT (args_gss _ _ _) ?_)
  show wpAny _ _ (descrStoreThrough "getset" (.builtin "BaseException.args") (.ref x) (some (.ref tv))) _ _ _
  unfold descrStoreThrough descrCheckInstance descrNameAndClass isInstance
  simp only [owner_bargs]
  refine wpAny_bind (wpAny_bind (wpAny_pure (wpAny_bind (wpAny_bind (I.type _ _ _ _ (fun _ _ e => e) (looks_subIn X hB _ _ _ _ (fun _ _ e => e) ?_))))))
  refine wpAny_pure (wpAny_bind (wpAny_pure ?_))
  refine wpAny_pure (And.intro (Code.quiet_builtin _ (by decide +kernel)) (codeAny_builtin entry_ba_set ?_))
  unfold Builtin.«BaseException.args#set»
  refine wpAny_bind (call_tuple_same (s := { s with toks := s.toks + 1 }) ht (wpAny_bind (exc_put (s := { s with toks := s.toks + 1 }) F N U fun h' F' N' => ?_)))
  exact wpAny_pure (wpAny_pure (wpAny_pure (h h' F' N')))

theorem exc_init_call {v : Value} {od : Option Obj} {Q : Value → Shared → Prop} (F : Fr h₀ L s.heap m) (X₀ : K.In h₀) (N : News h₀ L s.heap news) (I : InstAt s.heap x (excObj C d ta) C od)
    (hE : subIn K (.ref C) (.type "Exception") = some true) 
    (U : ∀ t, Upd x (excObj C d ta) (excObj C d t) news (news'' t))
    (h : ∀ t h', Fr h₀ L h' m → News h₀ L h' ((t, tupObj [v]) :: news'' t) → (∀ p ∈ news, p.1 < t) → Q .none { s with heap := h' }) : wpAny (model prog w) A (call (.builtin "Exception.__init__") [.ref x, v]) Q E s := by
  have X := X₀.keeps F.keep
  have FE := PySem.F.excBase_Exception
  obtain ⟨hh, g, dr, t, os⟩ := s
  refine wpAny_call (codeAny_call_builtin FE.init.plain FE.initEntry ?_)
  have hshort := FE.noStar
  have t1 := I.type (M := model prog w)
  have s1 := looks_subIn (M := model prog w) X hE
  obtain ⟨cd, hcd⟩ : ∃ cd, clsIn K C = some cd := by
    unfold subIn mroIn at hE
    cases q : clsIn K C with
    | none => simp only [q] at hE; cases hE
    | some cd => exact ⟨cd, rfl⟩
  have c1 := looks_clsIn (M := model prog w) X hcd
  simp only [checkBuiltinCall, FE.initKind, FE.initSplit, FE.initRow]
  unfold isInstance
  dsimp only at t1 s1 c1
  repeat lk
  have F1 := F.push (tupObj [v])
  have N1 : News h₀ L (hh.push (tupObj [v])) ((hh.objs.size, tupObj [v]) :: news) := N.push F (tupObj [v])
  have hlt : ∀ p ∈ news, p.1 < hh.objs.size := fun p hp => Heap.lt_size (N p hp).1
  obtain ⟨pre, post, e1, e2, a, b⟩ := (U hh.objs.size).split
  have hx : (hh.push (tupObj [v])).get? x = some (excObj C d ta) := Heap.get?_push_of_some _ I.at_
  have hxn : hh.objs.size ≠ x := fun z => absurd (Heap.lt_size I.at_) (by rw [← z]; exact Nat.lt_irrefl _)
  rw [e1] at N1
  obtain ⟨U1, U2⟩ := news_upd (pre := (hh.objs.size, tupObj [v]) :: pre) (f := Obj.mapFields (·.setIfInBounds 0 (.ref hh.objs.size))) F1 N1 (fun p hp => by rcases List.mem_cons.mp hp with rfl | hp; exact hxn; exact a p hp) b (o' := excObj C d hh.objs.size) rfl rfl
  refine nd_load hx (wpAny_pure (wpAny_pure (wpAny_pure (a := Value.ref ta) (wpAny_bind (wpAny_setField hx rfl (show 0 < 6 by decide) (wpAny_letGo (wpAny_pure ?_)))))))
  refine h hh.objs.size _ U1 ?_ hlt
  rw [e2]
  exact U2
end
end Mine
end
section
open PySem PySem.W PySem.Calls PyProof.Rows PySem.Builtin PySem.Builtin.ObjectAttr PySem.Builtin.Getset_descriptor
set_option Elab.async false
set_option maxRecDepth 100000
set_option maxHeartbeats 4000000
namespace Mine
theorem bga_kind : builtinKind "BaseException.__getattribute__" = some .slot := by decide +kernel
theorem bga_split : splitId "BaseException.__getattribute__" = some ("BaseException", "__getattribute__") := by decide +kernel
theorem bga_plain : plainId "BaseException.__getattribute__" = true := by decide +kernel
theorem bga_bind (self : Value) : bindSpecial (.builtin "BaseException.__getattribute__") self = pure (.builtin "BaseException.__getattribute__", [self]) := PySem.F.excAttr_ValueError.ga.bind self
def excGet (K : Frag) (C : Addr) : Bool := findIn K (.ref C) "__getattribute__" == some (some (.builtin "BaseException.__getattribute__")) && findIn K (.ref C) "__getattr__" == some none && subIn K (.ref C) (.type "BaseException") == some true
section
variable {prog : Program} {w : World} {A : Around} {E : Value → Shared → Prop} {s : Shared} {K : Frag} {x C ta : Addr} {ox : Obj} {od : Option Obj} {name : Str} {expr : Bool} {Q : Value → Shared → Prop}
theorem exc_get_open {r : Found} (X : K.In s.heap) (I : InstAt s.heap x ox C od) (hg : excGet K C = true) (hf : findObj K C od name = some r)
    (h : codeAny (model prog w) A (.call (.builtin "BaseException.__getattribute__") ⟨[.ref x, .str name s.toks], []⟩) (fun r s' => match r with | .ok (.ret v) => wpAny (model prog w) A (handedOut v) Q E s' | _ => False) { s with toks := s.toks + 1 }) :
    wpAny (model prog w) A (getAttr (.ref x) name expr) Q E s := by
  simp only [excGet, Bool.and_eq_true, beq_iff_eq] at hg
  obtain ⟨⟨h1, h2⟩, h3⟩ := hg
  obtain ⟨hh, g, d, t, os⟩ := s
  have L0 := I.type (M := model prog w)
  have L1 := looks_findIn (M := model prog w) X h1
  have L2 := looks_findIn (M := model prog w) X h2
  unfold getAttr getAttrBy
  refine wpAny_bind (wpAny_mkText (wpAny_holding (wpAny_bind (L0.at (wpAny_bind (L1.at ?_))))))
  dsimp only
  rw [show (onTheHeap (Value.ref C) && Value.builtin "BaseException.__getattribute__" == Value.builtin "object.__getattribute__") = false from by rw [show (Value.builtin "BaseException.__getattribute__" == Value.builtin "object.__getattribute__") = false from by decide +kernel, Bool.and_false], if_neg (by decide)]
  unfold getAttrByItsOwn
  refine wpAny_bind (L2.at (wpAny_bind (wpAny_attempt (wpAny_holding ?_))))
  unfold callGetattribute
  rw [show (expr && onTheHeap (Value.builtin "BaseException.__getattribute__")) = false from Bool.and_false _, if_neg (by decide)]
  unfold boundAndCalled
  rw [bga_bind]
  refine wpAny_bind (wpAny_pure (wpAny_call (codeAny_mono h fun r s' z => ?_)))
  rcases r with e | (v | _ | _ | _) <;> first | exact z | exact z.elim

theorem exc_get {v : Value} (X : K.In s.heap) (I : InstAt s.heap x ox C od) (hg : excGet K C = true) (hf : findObj K C od name = some (.value v)) (hv : handedIn v = true)
    (h : Q v { s with toks := s.toks + 1 }) : wpAny (model prog w) A (getAttr (.ref x) name expr) Q E s := by
  refine exc_get_open X I hg hf ?_
  simp only [excGet, Bool.and_eq_true, beq_iff_eq] at hg
  obtain ⟨⟨h1, h2⟩, h3⟩ := hg
  obtain ⟨hh, g, d, t, os⟩ := s
  have L0 := I.type (M := model prog w)
  have L3 := looks_subIn (M := model prog w) X h3
  have L1 := looks_find (M := model prog w) X I hf
  refine codeAny_call_builtin bga_plain PySem.F.entry_bexc_ga (@check_slot (model prog w) _ _ ⟨hh, g, d, t + 1, os⟩ "BaseException.__getattribute__" "BaseException" "__getattribute__" (.ref x) [.str name t] [] _ bga_kind bga_split (L0.andThen L3) (PySem.F.args_bexc_ga _ _) ?_)
  unfold Builtin.«object.__getattribute__»
  refine wpAny_bind (wpAny_pure (wpAny_bind (wpAny_pure (wpAny_bind (L0.at (wpAny_bind (L1.at ?_)))))))
  refine wpAny_pure ?_
  show wpAny _ _ (handedOut v) _ _ _
  rw [handedOut_of hv]; exact wpAny_pure h

theorem exc_get_args {d : Option Addr} (X : K.In s.heap) (I : InstAt s.heap x (excObj C d ta) C od) (hg : excGet K C = true) (hf : findObj K C od "args" = some (.bind (.builtin "getset_descriptor.__get__") (.builtin "BaseException.args")))
    (h : Q (.ref ta) { s with toks := s.toks + 1 }) : wpAny (model prog w) A (getAttr (.ref x) "args" expr) Q E s := by
  refine exc_get_open X I hg hf ?_
  simp only [excGet, Bool.and_eq_true, beq_iff_eq] at hg
  obtain ⟨⟨h1, h2⟩, h3⟩ := hg
  obtain ⟨hh, g, dr, t, os⟩ := s
  have L0 := I.type (M := model prog w)
  have L3 := looks_subIn (M := model prog w) X h3
  have L1 := looks_find (M := model prog w) X I hf
  have hx := I.at_
  refine codeAny_call_builtin bga_plain PySem.F.entry_bexc_ga (@check_slot (model prog w) _ _ ⟨hh, g, dr, t + 1, os⟩ "BaseException.__getattribute__" "BaseException" "__getattribute__" (.ref x) [.str "args" t] [] _ bga_kind bga_split (L0.andThen L3) (PySem.F.args_bexc_ga _ _) ?_)
  unfold Builtin.«object.__getattribute__»
  refine wpAny_bind (wpAny_pure (wpAny_bind (wpAny_pure (wpAny_bind (L0.at (wpAny_bind (L1.at ?_)))))))
  show wpAny _ _ (holding [.builtin "BaseException.args"] (call (.builtin "getset_descriptor.__get__") [.builtin "BaseException.args", .ref x, .ref C]) >>= ret) _ _ _
  refine wpAny_bind (wpAny_holding (wpAny_call ?_))
  have hT5 : (⟨hh, g, dr, t + 1, os⟩ : Shared).TypeIs (.builtin "BaseException.args") "getset_descriptor" := PySem.F.typeOf_bexc_args
  refine codeAny_call_builtin PySem.F.slot_gs_get.plain PySem.F.entry_gs_get (PySem.F.slot_gs_get.check _ _ _ _ _ _ _ _ hT5 (PySem.F.args_gs_get _ _ _) ?_)
  have L4 : Looks (model prog w) hh (isSubtype (.ref C) (.type (".".intercalate ("BaseException.args".cutAt '.').dropLast))) true := by rw [PySem.F.owner_bexc_args]; exact L3
  dsimp only at L0
  unfold Builtin.«getset_descriptor.__get__» descrGet descrGetArgs
  dsimp only
  repeat lk
  refine ⟨Code.quiet_builtin _ (by decide +kernel), codeAny_builtin PySem.F.entry_bexc_args ?_⟩
  unfold Builtin.«BaseException.args»
  refine wpAny_bind (wpAny_field hx rfl (x := .ref ta) rfl ?_)
  exact wpAny_pure (wpAny_pure (wpAny_pure h))
end
end Mine
end
section
open PySem PySem.W PySem.Calls PyProof.Rows
set_option Elab.async false
set_option maxRecDepth 100000
set_option maxHeartbeats 4000000
namespace Mine
def AD (d u : Nat) : Around := { handled := none, depth := d, frames := none, guards := some [], units := u }
theorem weaken {α : Type} {M : Model} {A : Around} {d u : Nat} {t : Sem α} {Q : α → Shared → Prop} {E : Value → Shared → Prop} {s : Shared} (h1 : A.handled = none) (hg : A.guards = some []) (h2 : A.depth ≤ d) (h3 : A.units ≤ u) (h : wpAny M (AD d u) t Q E s) : wpAny M A t Q E s :=
  fun Γ p hΓ => h Γ p ⟨hΓ.1.trans h1, Nat.le_trans hΓ.2.1 h2, (by intro _ e; cases e), (by intro g e; exact hΓ.2.2.2.1 g (hg.trans e)), Nat.le_trans hΓ.2.2.2.2 h3⟩
abbrev Grow (h h' : Heap) : Prop := ∀ b o, h.get? b = some o → h'.get? b = some o
section
variable {prog : Program} {w : World} {A : Around} {K : Frag} {s : Shared} {h₀ : Heap} {L : Addr} {m : Str → Option Value} {news : List (Addr × Obj)} {R : Result → Shared → Prop}
  {name qual : Str} {params : Arguments} {body : List Stmt} {scope : Scope} {dV kV doc pm cdv ct oc : Value} {an od : Option Addr} {osl : Array (Option Value)} {f : Addr} {args : Args} {binds : List (Str × Value)}
/-- enter a def: what stands in h₀ is kept, the objects of the ledger may change -/
theorem enter_new (G : Grow h₀ s.heap) (hz : h₀.objs.size ≤ s.heap.objs.size) (X₀ : K.In h₀) (hlim : h₀.NoLimit) (N : ∀ p ∈ news, s.heap.get? p.1 = some p.2 ∧ h₀.get? p.1 = none)
    (ho : K.lookup f = some ⟨oc, od, .func (fnOf name qual params body scope dV kV doc pm an cdv ct), osl⟩) (hcd : codeIn K cdv qual = true) (hroom : A.depth < recursionLimit)
    (hbind : BindsTo s (fnOf name qual params body scope dV kV doc pm an cdv ct) args binds) (hloc : ∀ y ∈ binds, scope.names.lookup y.1 = some .local)
    (hco : scope.isCoroutine = false) (hgen : scope.isGenerator = false) (hk : scope.kind = .function) (hcell : ∀ x ∈ scope.names, x.2 ≠ .cell)
    (h : ∀ L' h₁ tk, Fr h₀ L' h₁ (fun y => binds.reverse.lookup y) → News h₀ L' h₁ news → (∀ p ∈ news, p.1 < L') → 
      wpAny (model prog w) (A.deeper (envOf qual scope L' f cdv)) (execs body (envOf qual scope L' f cdv)) (fun fl s' => R (.ok (.ret (match fl with | .ret v => v | _ => .none))) s') (fun _ _ => False)
        { s with heap := h₁, toks := tk }) : codeAny (model prog w) A (.call (.ref f) args) R s := by
  have X := X₀.keeps G
  refine codeAny_call_def (fd := fnOf name qual params body scope dV kV doc pm an cdv ct) (body := body) (binds := binds) hroom (X _ _ ho) rfl (hlim.keeps G) (codeRec_of X hcd) rfl hbind hcell hloc (fun h₁ hns hk₁ => ?_) hco hgen hk
  refine wpAny_mono (h s.heap.objs.size h₁ _ ⟨hns, fun b o e => hk₁ b o (G b o e), hz⟩ (fun p hp => ⟨hk₁ _ _ (N p hp).1, Nat.ne_of_lt (Heap.lt_size (N p hp).1), (N p hp).2⟩) fun p hp => Heap.lt_size (N p hp).1) (fun _ _ z => z) fun _ _ z => z.elim

/-- the way back into a frame -/
def BackIn (h₀ : Heap) (L : Addr) (m : Str → Option Value) (oL : Obj) (R : Result → Shared → Prop) (v : Value) (s' : Shared) : Prop := (∀ h', h'.get? L = some oL → Grow h₀ h' → Fr h₀ L h' m) → R (.ok (.ret v)) s'
def AllNe (d : Nat) : List (Addr × Obj) → Prop
  | [] => True
  | p :: r => @Ne Nat p.1 d ∧ AllNe d r
theorem allNe_of {d : Addr} : ∀ {l : List (Addr × Obj)}, (∀ p ∈ l, p.1 ≠ d) → AllNe d l
  | [], _ => trivial
  | p :: _, h => ⟨h p (.head _), allNe_of fun q hq => h q (.tail _ hq)⟩
inductive Drop (L : Addr) (oL : Obj) : List (Addr × Obj) → List (Addr × Obj) → Prop
  | head {r} : (∀ p ∈ r, p.1 ≠ L) → Drop L oL ((L, oL) :: r) r
  | tail {p r r'} : p.1 ≠ L → Drop L oL r r' → Drop L oL (p :: r) (p :: r')
theorem Drop.mem {L : Addr} {oL : Obj} : ∀ {l l' : List (Addr × Obj)}, Drop L oL l l' → (L, oL) ∈ l
  | _, _, .head _ => .head _
  | _, _, .tail _ r => .tail _ r.mem
theorem Drop.sub {L : Addr} {oL : Obj} : ∀ {l l' : List (Addr × Obj)}, Drop L oL l l' → ∀ p ∈ l', p ∈ l ∧ p.1 ≠ L
  | _, _, .head h, p, hp => ⟨.tail _ hp, h p hp⟩
  | _, _, .tail h r, p, hp => by
    rcases List.mem_cons.mp hp with rfl | hp
    · exact ⟨.head _, h⟩
    · exact ⟨.tail _ (r.sub p hp).1, (r.sub p hp).2⟩
theorem back_ {oL : Obj} {L' : Addr} {m' : Str → Option Value} {news' news'' : List (Addr × Obj)} {v : Value} {s' : Shared} (F' : Fr h₀ L' s'.heap m') (N' : News h₀ L' s'.heap news') (D : Drop L oL news' news'')
    (h : Fr h₀ L s'.heap m → News h₀ L s'.heap news'' → R (.ok (.ret v)) s') : BackIn h₀ L m oL R v s' := fun hb =>
  h (hb _ (N' _ D.mem).1 F'.keep) fun p hp => ⟨(N' p (D.sub p hp).1).1, (D.sub p hp).2, (N' p (D.sub p hp).1).2.2⟩

/-- enter a def from within a frame: the frame's own object stands in the ledger -/
theorem enter_in (F : Fr h₀ L s.heap m) (X₀ : K.In h₀) (N : News h₀ L s.heap news) (hlim : h₀.NoLimit)
    (ho : K.lookup f = some ⟨oc, od, .func (fnOf name qual params body scope dV kV doc pm an cdv ct), osl⟩) (hcd : codeIn K cdv qual = true) (hroom : A.depth < recursionLimit)
    (hbind : BindsTo s (fnOf name qual params body scope dV kV doc pm an cdv ct) args binds) (hloc : ∀ y ∈ binds, scope.names.lookup y.1 = some .local)
    (hco : scope.isCoroutine = false) (hgen : scope.isGenerator = false) (hk : scope.kind = .function) (hcell : ∀ x ∈ scope.names, x.2 ≠ .cell)
    (h : ∀ oL L' h₁ tk, Fr h₀ L' h₁ (fun y => binds.reverse.lookup y) → News h₀ L' h₁ ((L, oL) :: news) → (∀ p ∈ (L, oL) :: news, p.1 < L') → (∀ p ∈ news, p.1 ≠ L) →
      wpAny (model prog w) (A.deeper (envOf qual scope L' f cdv)) (execs body (envOf qual scope L' f cdv)) (fun fl s' => BackIn h₀ L m oL R (match fl with | .ret v => v | _ => .none) s') (fun _ _ => False)
        { s with heap := h₁, toks := tk }) : codeAny (model prog w) A (.call (.ref f) args) R s := by
  obtain ⟨oL, es, ep, hL, r⟩ := F.ns
  have hn : h₀.get? L = none := by
    cases q : h₀.get? L with
    | none => rfl
    | some o => exact absurd (Heap.lt_size q) (Nat.not_lt.mpr F.above)
  refine enter_new (news := (L, oL) :: news) F.keep (Nat.le_of_lt (Nat.lt_of_le_of_lt F.above (Heap.lt_size hL))) X₀ hlim (fun p hp => ?_) ho hcd hroom hbind hloc hco hgen hk hcell fun L' h₁ tk F' N' l => wpAny_mono (h oL L' h₁ tk F' N' l fun p hp => (N p hp).2.1) (fun _ _ z => z fun h' e g => ⟨⟨oL, es, ep, e, r⟩, g, F.above⟩) fun _ _ z => z
  rcases List.mem_cons.mp hp with rfl | hp
  · exact ⟨hL, hn⟩
  · exact ⟨(N p hp).1, (N p hp).2.2⟩
end
end Mine
end
section
open PySem PySem.W PySem.Calls PyProof.Rows
set_option Elab.async false
set_option maxRecDepth 100000
set_option maxHeartbeats 4000000
namespace Mine
/-- what is written of v, in any heap that holds what hb holds -/
structure Reprs (prog : Program) (w : World) (hb : Heap) (v : Value) (t : Str) : Prop where
  call : ∀ (A : Around) (s : Shared) (Q E : Value → Shared → Prop), A.handled = none → A.guards = some [] → A.depth ≤ 800 → A.units ≤ 4000 → Grow hb s.heap →
    (∀ h' u tk, Grow s.heap h' → Q (.str t u) { s with heap := h', toks := tk }) → wpAny (model prog w) A (PySem.call (.builtin "repr") [v]) Q E s
  obj : ∀ (A : Around) (s : Shared) (Q E : Value → Shared → Prop), A.handled = none → A.guards = some [] → A.depth ≤ 800 → A.units ≤ 4000 → Grow hb s.heap →
    (∀ h' u tk, Grow s.heap h' → Q (.str t u) { s with heap := h', toks := tk }) → wpAny (model prog w) A (pyReprObj v) Q E s
  short : t.length ≤ 1000000
theorem Reprs.mono {prog : Program} {w : World} {hb h' : Heap} {v : Value} {t : Str} (r : Reprs prog w hb v t) (g : Grow hb h') : Reprs prog w h' v t :=
  ⟨fun A s Q E a b c d e f => r.call A s Q E a b c d (fun x o q => e x o (g x o q)) f, fun A s Q E a b c d e f => r.obj A s Q E a b c d (fun x o q => e x o (g x o q)) f, r.short⟩
def Fields (od : Obj) (fs : List (Str × Value)) : Prop := ∀ p ∈ fs, lookIn p.1 od = some (some p.2)
/-- an error, newly made -/
structure ErrNew (h h' : Heap) (C e d ta : Addr) (od : Obj) (msg : Str) (u : Tok) (fs : List (Str × Value)) (args : List Value) : Prop where
  he : h'.get? e = some (excObj C (some d) ta)
  hd : h'.get? d = some od
  ht : h'.get? ta = some (tupObj args)
  ne : h.get? e = none
  nd : h.get? d = none
  nt : h.get? ta = none
  hm : lookIn "message" od = some (some (.str msg u))
  hf : Fields od fs
/-- what a line number is told as -/
structure Lines (prog : Program) (w : World) (n : Int) (t : Str) : Prop where
  call : ∀ (A : Around) (s : Shared) (Q E : Value → Shared → Prop) (tk nt : Tok), A.handled = none → A.guards = some [] → A.depth ≤ 800 → A.units ≤ 4000 →
    (∀ h' u k, Grow s.heap h' → Q (.str t u) { s with heap := h', toks := k }) → wpAny (model prog w) A (PySem.call (.builtin "str.format") [.str (Str.ofString " [line {0:2d}]") tk, .int n nt]) Q E s
  short : t.length ≤ 1000
section
variable {prog : Program} {w : World} {A : Around} {E : Value → Shared → Prop} {s : Shared} {h₀ : Heap} {L : Addr} {m : Str → Option Value} {news : List (Addr × Obj)} {v : Value} {t : Str} {Q : Value → Shared → Prop}
theorem fr_grow {h h' : Heap} (F : Fr h₀ L h m) (g : Grow h h') : Fr h₀ L h' m := ⟨F.ns.keeps g, fun b o e => g b o (F.keep b o e), F.above⟩
theorem news_grow {h h' : Heap} (N : News h₀ L h news) (g : Grow h h') : News h₀ L h' news := fun p hp => ⟨g _ _ (N p hp).1, (N p hp).2⟩
theorem repr_use (r : Reprs prog w h₀ v t) (F : Fr h₀ L s.heap m) (N : News h₀ L s.heap news) (h1 : A.handled = none) (h2 : A.guards = some []) (h3 : A.depth ≤ 800) (h4 : A.units ≤ 4000)
    (h : ∀ h' u tk, Fr h₀ L h' m → News h₀ L h' news → Q (.str t u) { s with heap := h', toks := tk }) : wpAny (model prog w) A (call (.builtin "repr") [v]) Q E s :=
  r.call A s Q E h1 h2 h3 h4 F.keep fun h' u tk g => h h' u tk (fr_grow F g) (news_grow N g)
theorem isTup_of {h : Heap} {a : Addr} {vs : List Value} (N : News h₀ L h news) (hm : (a, ({ cls := .type "tuple", data := .seq vs.toArray } : Obj)) ∈ news) : h.IsTuple a vs.toArray := ⟨_, (N _ hm).1, rfl, _, rfl⟩
theorem meta_Exception : typeOf (.type "Exception") = pure (.type "type") := by first | rfl | kernel_rfl
theorem line_use {n : Int} {tk nt : Tok} (r : Lines prog w n t) (F : Fr h₀ L s.heap m) (N : News h₀ L s.heap news) (h1 : A.handled = none) (h2 : A.guards = some []) (h3 : A.depth ≤ 800) (h4 : A.units ≤ 4000)
    (h : ∀ h' u tk, Fr h₀ L h' m → News h₀ L h' news → Q (.str t u) { s with heap := h', toks := tk }) : wpAny (model prog w) A (call (.builtin "str.format") [.str (Str.ofString " [line {0:2d}]") tk, .int n nt]) Q E s :=
  r.call A s Q E tk nt h1 h2 h3 h4 fun h' u tk g => h h' u tk (fr_grow F g) (news_grow N g)
theorem isNot_none (hv : v ≠ .none) (q : Q (.bool true) s) : wpAny (model prog w) A (compareOp .IsNot v .none) Q E s :=
  isnot_none_gen (by rw [show (v == Value.none) = false from beq_eq_false_iff_ne.mpr hv]; exact q)
theorem err_close {h' : Heap} {C e d ta : Addr} {od : Obj} {msg : Str} {u : Tok} {fs : List (Str × Value)} {args : List Value} (N : News h₀ L h' news) (h1 : (e, excObj C (some d) ta) ∈ news) (h2 : (d, od) ∈ news) (h3 : (ta, tupObj args) ∈ news)
    (hm : lookIn "message" od = some (some (.str msg u))) (hf : Fields od fs) : ErrNew h₀ h' C e d ta od msg u fs args := ⟨(N _ h1).1, (N _ h2).1, (N _ h3).1, (N _ h1).2.2, (N _ h2).2.2, (N _ h3).2.2, hm, hf⟩
theorem made_grow (h : Heap) (o o' : Obj) : Grow h ((h.push o).push o') := fun _ _ e => Heap.get?_push_of_some _ (Heap.get?_push_of_some _ e)
theorem made_news (h : Heap) (C : Addr) (vs : List Value) : ∀ p ∈ [(h.objs.size + 1, excObj C none h.objs.size), (h.objs.size, tupObj vs)], ((h.push (tupObj vs)).push (excObj C none h.objs.size)).get? p.1 = some p.2 ∧ h.get? p.1 = none := by
  intro p hp
  rcases List.mem_cons.mp hp with rfl | hp
  · exact ⟨by heap_get, Heap.get?_none_of_le (Nat.le_succ _)⟩
  · rcases List.mem_singleton.mp hp with rfl
    exact ⟨Heap.get?_push_of_some _ (Heap.get?_push_size _ rfl), Heap.get?_none_of_le (Nat.le_refl _)⟩
end
end Mine
end
section
open PySem PySem.W PySem.Calls PyProof.Rows
set_option Elab.async false
set_option maxRecDepth 100000
set_option maxHeartbeats 4000000
namespace Mine
section
variable {prog : Program} {w : World} {A : Around} {E : Value → Shared → Prop} {s : Shared} {h₀ : Heap} {L : Addr} {m : Str → Option Value} {news : List (Addr × Obj)} {v : Value} {t : Str} {Q : Value → Shared → Prop} {K : Frag}
theorem reprs_str {hb : Heap} {x : Str} {t : Tok} (hl : (reprText x).length ≤ 1000000) : Reprs prog w hb (.str x t) (reprText x) where
  call := fun A s Q E _ _ _ _ _ h => P.repr_of_str (h s.heap _ _ fun _ _ e => e) (by rw [sizeLine_eq]; omega)
  obj := fun A s Q E _ _ _ _ _ h => wpAny_pyReprObj_str (h s.heap _ _ fun _ _ e => e) (by rw [sizeLine_eq]; omega)
  short := hl

/-- an error that a contract makes, taken into a frame's ledger -/
theorem err_use {f : Value} {vs : List Value} {kw : List (Str × Value)} {C : Addr} {msg : Str} {fs : List (Str × Value)} {args : List Value}
    (c : ∀ Q E, (∀ h' tk e d ta od u, Grow s.heap h' → ErrNew s.heap h' C e d ta od msg u fs args → Q (.ref e) { s with heap := h', toks := tk }) → wpAny (model prog w) (AD 600 2000) (call f vs kw) Q E s)
    (F : Fr h₀ L s.heap m) (N : News h₀ L s.heap news) (h1 : A.handled = none) (h2 : A.guards = some []) (h3 : A.depth ≤ 600) (h4 : A.units ≤ 2000)
    (h : ∀ h' tk e d ta od u, Fr h₀ L h' m → News h₀ L h' ((e, excObj C (some d) ta) :: (d, od) :: (ta, tupObj args) :: news) → AllNe e news → AllNe d news → AllNe ta news → lookIn "message" od = some (some (.str msg u)) → Fields od fs → Q (.ref e) { s with heap := h', toks := tk }) :
    wpAny (model prog w) A (call f vs kw) Q E s := by
  refine weaken h1 h2 h3 h4 (c Q E fun h' tk e d ta od u g n => ?_)
  have hL : ∀ a, s.heap.get? a = none → a ≠ L := fun a ha z => by
    obtain ⟨o, _, _, ho, _⟩ := F.ns
    rw [z, ho] at ha; cases ha
  have h0 : ∀ a, s.heap.get? a = none → h₀.get? a = none := fun a ha => by
    cases q : h₀.get? a with
    | none => rfl
    | some o => rw [F.keep _ _ q] at ha; cases ha
  have hne : ∀ a, s.heap.get? a = none → AllNe a news := fun a ha => allNe_of fun p hp z => by
    have := (N p hp).1
    rw [z, ha] at this; cases this
  refine h h' tk e d ta od u (fr_grow F g) ?_ (hne _ n.ne) (hne _ n.nd) (hne _ n.nt) n.hm n.hf
  intro p hp
  rcases List.mem_cons.mp hp with rfl | hp
  · exact ⟨n.he, hL _ n.ne, h0 _ n.ne⟩
  rcases List.mem_cons.mp hp with rfl | hp
  · exact ⟨n.hd, hL _ n.nd, h0 _ n.nd⟩
  rcases List.mem_cons.mp hp with rfl | hp
  · exact ⟨n.ht, hL _ n.nt, h0 _ n.nt⟩
  · exact news_grow N g p hp

/-- a field of an error in the ledger -/
theorem err_get {expr : Bool} {C x d ta : Addr} {od : Obj} {name : Str} {attr : Option Value} (F : Fr h₀ L s.heap m) (X₀ : K.In h₀) (N : News h₀ L s.heap news) (h1 : (x, excObj C (some d) ta) ∈ news) (h2 : (d, od) ∈ news) (hg : excGet K C = true)
    (hh : hasDictIn K C = true) (ha : findIn K (.ref C) name = some attr) (hn : noGet K attr = true) (hl : lookIn name od = some (some v)) (hv : handedIn v = true) (h : Q v { s with toks := s.toks + 1 }) :
    wpAny (model prog w) A (getAttr (.ref x) name expr) Q E s :=
  exc_get (X₀.keeps F.keep) (InstAt.of_exc N h1 h2) hg (findObj_own hh ha hn hl) hv h
theorem err_args {expr : Bool} {C x d ta : Addr} {od : Obj} (F : Fr h₀ L s.heap m) (X₀ : K.In h₀) (N : News h₀ L s.heap news) (h1 : (x, excObj C (some d) ta) ∈ news) (h2 : (d, od) ∈ news) (hg : excGet K C = true)
    (hc : (clsIn K C).isSome = true) (ha : findIn K (.ref C) "args" = some (some (.builtin "BaseException.args"))) (hs : specialIn K (.builtin "BaseException.args") "__get__" = some (some (.builtin "getset_descriptor.__get__"))) (ht : takesIn K (.builtin "BaseException.args") = some true)
    (h : Q (.ref ta) { s with toks := s.toks + 1 }) : wpAny (model prog w) A (getAttr (.ref x) "args" expr) Q E s :=
  exc_get_args (X₀.keeps F.keep) (InstAt.of_exc N h1 h2) hg (findObj_data hc ha hs ht) h
end
end Mine
end
section
open PySem PySem.W PySem.Calls PyProof.Rows Builtin Builtin.Str Builtin.Int Builtin.Float
set_option Elab.async false
set_option maxRecDepth 100000
set_option maxHeartbeats 4000000
namespace Mine
theorem ifno {M : Model} {A : Around} {E : Value → Shared → Prop} {s : Shared} {α : Type} {c : Prop} {d : Decidable c} {a b : Sem α} {Q : α → Shared → Prop} (h : ¬ c) (k : wpAny M A b Q E s) : wpAny M A (@ite _ c d a b) Q E s := by rw [if_neg h]; exact k
def numDigits (n : Int) : List Nat := (if n < 0 then [45] else []) ++ (Nat.toDigits 10 n.natAbs).map Char.toNat
/-- a number, two signs wide at least -/
def fig2 (n : Int) : PySem.Str := ⟨(List.replicate (2 - (numDigits n).length) 32 ++ numDigits n).toArray⟩
theorem spec2d : parseFormatSpec (PySem.Str.ofString "2d").cps.toList "int" 62 = .ok { align := 62, width := some 2, type := some 100 } := by rfl
theorem text2d (a : Int) : intSpecText { align := 62, width := some 2, type := some 100 } a = fig2 a := by
  unfold intSpecText intField' fig2 numDigits
  have hne : (Nat.toDigits 10 a.natAbs).map (fun c => (if (100 : Nat) == 88 then c.toUpper else c).toNat) = (Nat.toDigits 10 a.natAbs).map Char.toNat := rfl
  rw [hne]
  have h1 := tDigits_len_ge 10 a.natAbs
  have he : ((Nat.toDigits 10 a.natAbs).map Char.toNat).isEmpty = false := by
    cases h : Nat.toDigits 10 a.natAbs with
    | nil => rw [h] at h1; simp at h1
    | cons _ _ => rfl
  by_cases hn : a < 0
  · simp [hn, he]
  · simp [hn, he]
theorem fmt2d {a : Int} {t : Tok} (hd : a.natAbs.log2 < 1920) (hl : (fig2 a).length ≤ sizeLine) (u : Tok) : Meets («int.__format__» ⟨[.int a t, .str (PySem.Str.ofString "2d") u], []⟩) (fun _ R s => ∀ t' k, R (.ok (.ret (.str (fig2 a) t'))) { s with toks := k }) := by
  apply KPc.meets_of
  intro _ _ _ _ _ _ _
  unfold Builtin.«int.__format__»
  refine wpAny_bind (wpAny_of_eq (a := (_, _)) rfl ?_)
  refine wpAny_bind (wpAny_of_eq (a := _) rfl ?_)
  kxf_if
  refine wpAny_bind (wpAny_typeNameOf (T := "str") (typeIs_str _ _ _) (by decide) fun _ => ?_)
  refine wpAny_bind (wpAny_of_eq (a := some _) rfl ?_)
  kxf_if
  kxf_if
  refine wpAny_bind (wpAny_typeNameOfCut_int ?_)
  rw [spec2d]
  refine wpAny_ite (KPc.ite_yes (by decide +kernel) ?_)
  refine wpAny_bind (wpAny_of_eq (PySem.overDigitLimit_small hd) ?_)
  show wpAny _ _ (retStr _) _ _ _
  refine KXf.ret_text (T := fig2 a) ?e ?l ?h
  case h => assumption
  case e => (
    rw [← text2d a]
    unfold intSpecText
    rw [show (if ({ align := 62, width := some 2, type := some 100 } : FormatSpec).alt = true then _ else []) = ([] : List Nat) from if_neg (by decide)]
    generalize e1 : (Nat.toDigits 10 a.natAbs).map _ = ds
    rw [show (Nat.toDigits 10 a.natAbs).map (fun c => (if (100 : Nat) == 88 then c.toUpper else c).toNat) = ds from e1]
    cases decide (a < 0) <;> cases ds <;> rfl)
  case l => refine Nat.le_trans (Nat.le_of_eq (congrArg PySem.Str.length (a₂ := fig2 a) ?_)) hl; (
    rw [← text2d a]
    unfold intSpecText
    rw [show (if ({ align := 62, width := some 2, type := some 100 } : FormatSpec).alt = true then _ else []) = ([] : List Nat) from if_neg (by decide)]
    generalize e1 : (Nat.toDigits 10 a.natAbs).map _ = ds
    rw [show (Nat.toDigits 10 a.natAbs).map (fun c => (if (100 : Nat) == 88 then c.toUpper else c).toNat) = ds from e1]
    cases decide (a < 0) <;> cases ds <;> rfl)
theorem formatOf_2d {prog : Program} {w : World} {A : Around} {E : Value → Shared → Prop} {s : Shared} {n : Int} {u : Tok} {X : PySem.Str} {Q : Value → Shared → Prop} (hX : X = PySem.Str.ofString "2d") (hd : n.natAbs.log2 < 1920) (hl : (fig2 n).length ≤ sizeLine)
    (h : ∀ t' k, Q (.str (fig2 n) t') { s with toks := k }) : wpAny (model prog w) A (PySem.Builtin.Str.formatOf (.int n u) X) Q E s := by
  subst hX
  unfold PySem.Builtin.Str.formatOf
  refine wpAny_ite (KPc.ite_no Bool.false_ne_true ?_)
  refine wpAny_bind (wpAny_mkStr ?_ (by decide))
  refine wpAny_bind (m := callSpecial? (.int n u) (PySem.Str.ofString "__format__") [.str (PySem.Str.ofString "2d") s.toks]) (wpAny_callSpecial?_slot (name := PySem.Str.ofString "__format__") (typeIs_int _ n u) F.slot_int_format
    (call_meets F.slot_int_format (typeIs_int _ n u) F.entry_int_format (F.args_int_format_2 _ _) (fmt2d hd hl _) fun t' k => ?_))
  refine wpAny_bind (wpAny_of_eq (a := some (fig2 n)) rfl ?_)
  refine wpAny_ite (KPc.ite_no Bool.false_ne_true ?_)
  exact wpAny_pure (h _ _)
theorem field_man {prog : Program} {w : World} {A : Around} {E : Value → Shared → Prop} {s : Shared} {id : String} {a : Array Value} {byName : PySem.Str → Sem Value} {v : Value} {Q : Value × Numbering → Shared → Prop} {X : List Nat} (hX : X = [48]) (ha : a[0]? = some v)
    (h : Q (v, .manual) s) : wpAny (model prog w) A (fieldObject id (some a) byName X .unset) Q E s := by
  subst hX
  unfold fieldObject
  refine wpAny_bind (wpAny_of_eq (a := some 0) rfl ?_)
  refine wpAny_bind (wpAny_of_eq (a := (some 0, .manual)) rfl ?_)
  simp only [ha, pure_bind]
  rw [KPc.range_list]
  exact wpAny_bind (wpAny_pure (wpAny_pure h))
def lineText (n : Int) : PySem.Str := (PySem.Str.ofString " [line " ++ fig2 n) ++ PySem.Str.ofString "]"
theorem line_meets {n : Int} {tk nt : Tok} (hd : n.natAbs.log2 < 1920) (hl : (fig2 n).length ≤ 900) : Meets («str.format» ⟨[.str (PySem.Str.ofString " [line {0:2d}]") tk, .int n nt], []⟩) (fun _ R s => ∀ t' k, R (.ok (.ret (.str (lineText n) t'))) { s with toks := k }) := by
  apply KPc.meets_of
  intro _ _ _ _ _ _ _
  unfold Builtin.«str.format»
  refine wpAny_bind (wpAny_of_eq (a := (_, _, _)) rfl ?_)
  refine wpAny_bind ?_
  unfold Builtin.Str.buildString
  refine wpAny_bind ?_
  rw [KPc.range_list]
  refine KFm.start ?_
  intro _ _
  refine KPc.turn ?_
  kpc_if
  kpc_check
  refine wpAny_bind (field_man rfl rfl ?_)
  refine wpAny_bind (wpAny_holding (wpAny_of_eq (a := _) rfl ?_))
  kpc_if
  refine wpAny_bind (wpAny_pure ?_)
  refine wpAny_bind (wpAny_holding (formatOf_2d (by rfl) hd (by rw [sizeLine_eq]; omega) ?_)); intro _ _
  refine wpAny_bind (wpAny_of_eq (a := some _) rfl ?_)
  refine wpAny_pure ?_
  refine KFm.after_field (K := 900) (by kpc_g) (by kpc_text) (by kpc_obj) hl (by kpc_obj) (by kfm_cat2) (by kfm_rest) ?_
  intro _ _
  refine KPc.turn ?_
  kpc_if
  kpc_check
  kfm_lit
  refine KPc.turn ?_
  kpc_if
  kfm_close
end Mine
end
section
open PySem PySem.W PySem.Calls PyProof.Rows
set_option Elab.async false
set_option maxRecDepth 100000
set_option maxHeartbeats 4000000
namespace Mine
theorem lines_of {prog : Program} {w : World} {n : Int} (hd : n.natAbs.log2 < 1920) (hl : (fig2 n).length ≤ 900) : Lines prog w n (lineText n) where
  call := fun A s Q E tk nt _ _ _ _ h => KFm.call_k rfl (KFm.args_2 _ _) (line_meets hd hl) fun t' k => h s.heap t' k fun _ _ e => e
  short := by
    have h1 : (PySem.Str.ofString " [line ").length = 7 := by decide +kernel
    have h2 : (PySem.Str.ofString "]").length = 1 := by decide +kernel
    simp only [lineText, PySem.Str.length_append]
    omega
end Mine
end
section
open PySem PySem.W PySem.Calls PyProof.Rows
set_option Elab.async false
set_option maxRecDepth 100000
set_option maxHeartbeats 4000000
namespace Mine
section
variable {prog : Program} {w : World} {A : Around} {E : Value → Shared → Prop} {s : Shared} {h₀ : Heap} {L : Addr} {m : Str → Option Value} {news : List (Addr × Obj)} {v : Value} {t : Str} {Q : Value → Shared → Prop} {K : Frag}
/-- a field of an error that stood ahead of the frame -/
theorem err_get0 {expr : Bool} {C x d ta : Addr} {od : Obj} {name : Str} {attr : Option Value} (F : Fr h₀ L s.heap m) (X₀ : K.In h₀) (h1 : h₀.get? x = some (excObj C (some d) ta)) (h2 : h₀.get? d = some od) (hl : lookIn name od = some (some v)) (hg : excGet K C = true)
    (hh : hasDictIn K C = true) (ha : findIn K (.ref C) name = some attr) (hn : noGet K attr = true) (hv : handedIn v = true) (h : Q v { s with toks := s.toks + 1 }) :
    wpAny (model prog w) A (getAttr (.ref x) name expr) Q E s :=
  exc_get (X₀.keeps F.keep) ⟨F.keep _ _ h1, rfl, rfl, F.keep _ _ h2⟩ hg (findObj_own hh ha hn hl) hv h
/-- str of an error of the ledger -/
theorem err_str {C x d ta f : Addr} {od : Obj} {msg : Str} {u : Tok} (F : Fr h₀ L s.heap m) (X₀ : K.In h₀) (N : News h₀ L s.heap news) (h1 : (x, excObj C (some d) ta) ∈ news) (h2 : (d, od) ∈ news) (hm : lookIn "message" od = some (some (.str msg u)))
    (c : ∀ Q E, s.heap.get? x = some (excObj C (some d) ta) → s.heap.get? d = some od → lookIn "message" od = some (some (.str msg u)) → K.In s.heap → (∀ h' tk, Grow s.heap h' → Q (.str msg u) { s with heap := h', toks := tk }) → wpAny (model prog w) (AD 610 2100) (call (.ref f) [.ref x]) Q E s)
    (hs : findIn K (.ref C) "__str__" = some (some (.ref f))) (hf : isFn K (.ref f) = true) (hu : A.in1.in1.units < cLine) (a1 : A.in1.in1.handled = none) (a2 : A.in1.in1.guards = some []) (a3 : A.in1.in1.depth ≤ 610) (a4 : A.in1.in1.units ≤ 2100)
    (h : ∀ h' tk, Fr h₀ L h' m → News h₀ L h' news → Q (.str msg u) { s with heap := h', toks := tk }) : wpAny (model prog w) A (call (.type "str") [.ref x]) Q E s :=
  kso_call hu (X₀.keeps F.keep) (InstAt.of_exc N h1 h2) hs hf (weaken a1 a2 a3 a4 (c (StrBack Q) E (N _ h1).1 (N _ h2).1 hm (X₀.keeps F.keep) fun h' tk g => h h' tk (fr_grow F g) (news_grow N g)))
/-- a contract that gives a text back, used from a frame -/
theorem text_use {f : Value} {vs : List Value} {kw : List (Str × Value)} {x : Str}
    (c : ∀ Q E, (∀ h' tk u, Grow s.heap h' → Q (.str x u) { s with heap := h', toks := tk }) → wpAny (model prog w) (AD 600 2000) (call f vs kw) Q E s)
    (F : Fr h₀ L s.heap m) (N : News h₀ L s.heap news) (h1 : A.handled = none) (h2 : A.guards = some []) (h3 : A.depth ≤ 600) (h4 : A.units ≤ 2000)
    (h : ∀ h' tk u, Fr h₀ L h' m → News h₀ L h' news → Q (.str x u) { s with heap := h', toks := tk }) : wpAny (model prog w) A (call f vs kw) Q E s :=
  weaken h1 h2 h3 h4 (c Q E fun h' tk u g => h h' tk u (fr_grow F g) (news_grow N g))
end
/-- one frame name changes, in one way or another -/
def Joined (h₀ : Heap) (L : Addr) (m : Str → Option Value) (news : List (Addr × Obj)) (y : Str) (P : Value → Prop) (s : Shared) (fl : Flow) (s' : Shared) : Prop :=
  fl = .next ∧ ∃ h' tk v, s' = { s with heap := h', toks := tk } ∧ P v ∧ Fr h₀ L h' (fun z => if z = y then some v else m z) ∧ News h₀ L h' news
def JoinedV (h₀ : Heap) (L : Addr) (m : Str → Option Value) (news : List (Addr × Obj)) (P : Value → Prop) (s : Shared) (v : Value) (s' : Shared) : Prop :=
  P v ∧ ∃ h' tk, s' = { s with heap := h', toks := tk } ∧ Fr h₀ L h' m ∧ News h₀ L h' news
section
variable {prog : Program} {w : World} {A : Around} {E : Value → Shared → Prop} {s : Shared} {h₀ : Heap} {L : Addr} {m : Str → Option Value} {news : List (Addr × Obj)} {M : Model}
theorem join_ {t : Sem Flow} {Q : Flow → Shared → Prop} (y : Str) (P : Value → Prop) (F : Fr h₀ L s.heap m) (N : News h₀ L s.heap news) (h1 : wpAny M A t (Joined h₀ L m news y P s) E s)
    (h2 : ∀ h' tk v, P v → Fr h₀ L h' (fun z => if z = y then some v else m z) → News h₀ L h' news → Q .next { s with heap := h', toks := tk }) : wpAny M A t Q E s :=
  wpAny_mono h1 (fun _ _ ⟨e, h', tk, v, e', p, F', N'⟩ => by subst e; subst e'; exact h2 h' tk v p F' N') fun _ _ z => z
theorem joinV_ {t : Sem Value} {Q : Value → Shared → Prop} (P : Value → Prop) (F : Fr h₀ L s.heap m) (N : News h₀ L s.heap news) (h1 : wpAny M A t (JoinedV h₀ L m news P s) E s)
    (h2 : ∀ v h' tk, P v → Fr h₀ L h' m → News h₀ L h' news → Q v { s with heap := h', toks := tk }) : wpAny M A t Q E s :=
  wpAny_mono h1 (fun _ _ ⟨p, h', tk, e', F', N'⟩ => by subst e'; exact h2 _ h' tk p F' N') fun _ _ z => z
theorem joined_set {y : Str} {P : Value → Prop} {h' : Heap} {tk : Nat} {v : Value} (p : P v) (F : Fr h₀ L h' (fun z => if z = y then some v else m z)) (N : News h₀ L h' news) : Joined h₀ L m news y P s .next { s with heap := h', toks := tk } := ⟨rfl, h', tk, v, rfl, p, F, N⟩
theorem joined_kept {y : Str} {P : Value → Prop} {h' : Heap} {tk : Nat} {v : Value} (p : P v) (hm : m y = some v) (F : Fr h₀ L h' m) (N : News h₀ L h' news) : Joined h₀ L m news y P s .next { s with heap := h', toks := tk } :=
  ⟨rfl, h', tk, v, rfl, p, by
    have e : (fun z => if z = y then some v else m z) = m := by
      funext z
      by_cases hz : z = y
      · rw [if_pos hz, hz, hm]
      · rw [if_neg hz]
    rw [e]; exact F, N⟩
theorem joinedV_ {P : Value → Prop} {h' : Heap} {tk : Nat} {v : Value} {news' : List (Addr × Obj)} (p : P v) (F : Fr h₀ L h' m) (N : News h₀ L h' news') (hs : ∀ q ∈ news, q ∈ news') : JoinedV h₀ L m news P s v { s with heap := h', toks := tk } := ⟨p, h', tk, rfl, F, fun q hq => N q (hs q hq)⟩
end
end Mine
end
section
open PySem PySem.W PySem.Calls PyProof.Rows
set_option Elab.async false
set_option maxRecDepth 100000
set_option maxHeartbeats 4000000
namespace Mine
section
variable {prog : Program} {w : World} {A : Around} {E : Value → Shared → Prop} {s : Shared}
/-- an item of a list that was just written, by an index within it: one of its items -/
theorem item_tmp {value slice : Expr} {l : Addr} {items : List Value} {k : Int} {u : Tok} {Q : Value → Shared → Prop} (hl : s.heap.IsList l items.toArray) (h0 : 0 ≤ k) (hk : k < (items.length : Int)) (hz : items.length ≤ 1000)
    (h : ∀ x ∈ items, Q x s) (hs : subscripted slice false (.ref l) (.int k u) = operate [.ref l, .int k u] (getItem (.ref l) (.int k u)) := by with_unfolding_all rfl) :
    wpAny (model prog w) A (subscriptTail value slice (.ref l) (.int k u)) Q E s := by
  have hT := hl.typeIs
  have hkn : k.toNat < items.length := by omega
  unfold subscriptTail
  refine wpAny_bind ?_
  rw [getitemInPython_of_ne hT.not_modules]
  refine wpAny_bind (wpAny_specialOf hT slot_list_getitem.lookup ?_)
  have fin : wpAny (model prog w) A (subscripted slice false (.ref l) (.int k u)) (fun r s₃ => wpAny (model prog w) A (letTemporaryGo value (.ref l) r >>= fun _ => pure r) Q E s₃) E s := by
    rw [hs]
    refine wpAny_operating (wpAny_getItem_list hl h0 (by omega) (x := items[k.toNat]) (by simp [hkn]) ?_)
    exact wpAny_bind (wpAny_letTemporaryGo (wpAny_pure (h _ (List.getElem_mem hkn))))
  first
    | exact wpAny_pure (wpAny_bind fin)
    | exact wpAny_bind (wpAny_pure (wpAny_bind fin))
    | exact wpAny_bind fin
end
end Mine
end
section
open PySem PySem.W PySem.Calls PyProof.Rows Builtin Builtin.Str
set_option Elab.async false
set_option maxRecDepth 100000
set_option maxHeartbeats 4000000
namespace Mine
/-- how repr writes v, in any heap that holds what hb holds: by the built-in, by a format's conversion, by a percent sign -/
structure Rep (prog : Program) (w : World) (hb : Heap) (v : Value) (t : PySem.Str) : Prop where
  call : ∀ (A : Around) (s : Shared) (Q E : Value → Shared → Prop), A.handled = none → A.guards = some [] → A.depth ≤ 800 → A.units ≤ 4000 → Grow hb s.heap →
    (∀ h' u tk, Grow s.heap h' → Q (.str t u) { s with heap := h', toks := tk }) → wpAny (model prog w) A (PySem.call (.builtin "repr") [v]) Q E s
  obj : ∀ (A : Around) (s : Shared) (Q E : Value → Shared → Prop), A.handled = none → A.guards = some [] → A.depth ≤ 800 → A.units ≤ 4000 → Grow hb s.heap →
    (∀ h' u tk, Grow s.heap h' → Q (.str t u) { s with heap := h', toks := tk }) → wpAny (model prog w) A (pyReprObj v) Q E s
  under : ∀ (base : Nat), base ≤ 2000000 → ∀ (A : Around) (s : Shared) (Q E : Value → Shared → Prop), A.handled = none → A.guards = some [] → A.depth ≤ 800 → A.units ≤ 4000 → Grow hb s.heap →
    (∀ h' u tk, Grow s.heap h' → Q (.str t u) { s with heap := h', toks := tk }) → wpAny (model prog w) A (pyReprObjUnder base v) Q E s
  short : t.length ≤ 1000000
theorem Rep.old {prog : Program} {w : World} {hb : Heap} {v : Value} {t : PySem.Str} (r : Rep prog w hb v t) : Reprs prog w hb v t := ⟨r.call, r.obj, r.short⟩
theorem Grow.refl (h : Heap) : Grow h h := fun _ _ e => e
theorem Grow.trans {h h' h'' : Heap} (a : Grow h h') (b : Grow h' h'') : Grow h h'' := fun x o e => b x o (a x o e)
theorem Rep.mono {prog : Program} {w : World} {hb h' : Heap} {v : Value} {t : PySem.Str} (r : Rep prog w hb v t) (g : Grow hb h') : Rep prog w h' v t :=
  ⟨fun A s Q E a b c d e f => r.call A s Q E a b c d (g.trans e) f, fun A s Q E a b c d e f => r.obj A s Q E a b c d (g.trans e) f, fun n hn A s Q E a b c d e f => r.under n hn A s Q E a b c d (g.trans e) f, r.short⟩
theorem under_leaf {M : Model} {A : Around} {E : Value → Shared → Prop} {s : Shared} {b : Nat} {v : Value} {T id : String} {Q : Value → Shared → Prop} (hT : s.TypeIs v T) (h : SlotG T (PySem.Str.ofString "__repr__") id)
    (htw : reprUnder? (.builtin id) = none) (hu : A.units < cLine)
    (hc : wpAny M A (call (.builtin id) [v]) (fun v s' => (∃ x u, v = .str x u) ∧ Q v s') E s) : wpAny M A (pyReprObjUnder b v) Q E s := by
  unfold pyReprObjUnder pyReprObjBy
  refine wpAny_bind (wpAny_cRoomFor hu ?_)
  refine wpAny_bind (wpAny_specialOf (name := PySem.Str.ofString "__repr__") hT h.lookup ?_)
  refine wpAny_bind (wpAny_callSpecialIfBoundBy?_slotG (name := PySem.Str.ofString "__repr__") hT h ?_)
  simp only [htw]
  refine wpAny_mono hc (fun v s' hv => ?_) fun _ _ x => x
  obtain ⟨⟨x, u, rfl⟩, hq⟩ := hv
  exact wpAny_bind (wpAny_isInstance (T := "str") (b := true) rfl isSubtype_str_str (wpAny_pure hq))
theorem rep_str {prog : Program} {w : World} {hb : Heap} {x : PySem.Str} {t : Tok} (hl : (reprText x).length ≤ 1000000) : Rep prog w hb (.str x t) (reprText x) where
  call := fun A s Q E _ _ _ _ _ h => P.repr_of_str (h s.heap _ _ fun _ _ e => e) (by rw [sizeLine_eq]; omega)
  obj := fun A s Q E _ _ _ _ _ h => wpAny_pyReprObj_str (h s.heap _ _ fun _ _ e => e) (by rw [sizeLine_eq]; omega)
  under := fun n _ A s Q E _ _ _ _ _ h => by
    exact under_leaf (typeIs_str s x t) F.slot_str_repr.toG rfl (Nat.lt_of_le_of_lt (by assumption) (Nat.le_of_ble_eq_true rfl)) (call_gives F.slot_str_repr (typeIs_str s x t) F.entry_str_repr (F.args_str_repr_1 _) (gives_str_repr x t) ⟨by rw [sizeLine_eq]; omega, ⟨_, _, rfl⟩, h s.heap _ _ fun _ _ e => e⟩)
  short := hl
section
variable {prog : Program} {w : World} {A : Around} {E : Value → Shared → Prop} {s : Shared} {h₀ : Heap} {L : Addr} {m : PySem.Str → Option Value} {news : List (Addr × Obj)} {v v2 v3 v4 : Value} {t t2 t3 t4 : PySem.Str}
theorem tup_grow {h h' : Heap} {b : Addr} {its : Array Value} (g : Grow h h') (x : IsTup h b its) : IsTup h' b its := by
  obtain ⟨o, a, c⟩ := x
  exact ⟨o, g _ _ a, c⟩
/-- what a call on the way asks of its surroundings -/
def Room (A : Around) : Prop := A.handled = none ∧ A.guards = some [] ∧ A.depth ≤ 790 ∧ A.units ≤ 3900
def RSpec (hb : Heap) (T : PySem.Str) (P : Heap → Prop) : PySem.Spec := fun A R s => Room A ∧ Grow hb s.heap ∧ P s.heap ∧ ∀ h' t' k, Grow s.heap h' → R (.ok (.ret (.str T t'))) { s with heap := h', toks := k }
theorem meets_rep {q : Sem Fin} {T : PySem.Str} {hb : Heap} {P : Heap → Prop}
    (h : ∀ (A : Around) (s : Shared) (Q : Fin → Shared → Prop) (E : Value → Shared → Prop), A.handled = none → A.guards = some [] → A.depth ≤ 790 → A.units ≤ 3910 → Grow hb s.heap → P s.heap → (∀ h' t' k, Grow s.heap h' → Q (.done (.ret (.str T t'))) { s with heap := h', toks := k }) → wpAny (model prog w) A q Q E s) :
    MeetsIn prog w q (RSpec hb T P) := fun A R s hS =>
  wpAny_mono (h A.in1 s (fun fin s' => ∃ v, fin = .done (.ret v) ∧ R (.ok (.ret v)) s') (fun e s' => R (.error e) s') hS.1.1 hS.1.2.1 hS.1.2.2.1 (Nat.le_trans (Nat.succ_le_succ hS.1.2.2.2) (by decide)) hS.2.1 hS.2.2.1 fun h' t' k g => ⟨_, rfl, hS.2.2.2 h' t' k g⟩)
    (fun fin s' h' => by obtain ⟨v, rfl, hv⟩ := h'; exact hv) fun _ _ x => x
end
end Mine
end
section
open PySem PySem.W PySem.Calls PyProof.Rows Builtin Builtin.Str
set_option Elab.async false
set_option maxRecDepth 100000
set_option maxHeartbeats 4000000
namespace Mine
theorem args_5 (a b c d e : Value) : argsOk "str.format" ⟨[a, b, c, d, e], []⟩ := by
  unfold argsOk; rw [signature?_of (id := "str.format") (n := ['t', 'a', 'm', 'r', 'o', 'f']) (o := ['r', 't', 's']) (by kernel_rfl) F.owner_str]; kernel_rfl
section
variable {prog : Program} {w : World} {A : Around} {E : Value → Shared → Prop} {s : Shared} {v v2 v3 v4 : Value} {t t2 t3 t4 : PySem.Str}
theorem fmtM_meets {hb : Heap} {tk : Tok} (r1 : Rep prog w hb v t) (r2 : Rep prog w hb v2 t2) (r3 : Rep prog w hb v3 t3) (r4 : Rep prog w hb v4 t4) :
    MeetsIn prog w («str.format» ⟨[.str (PySem.Str.ofString "Bad value substitution: option {!r} in section {!r} contains an interpolation key {!r} which is not a valid option name. Raw value: {!r}") tk, v, v2, v3, v4], []⟩) (RSpec hb (PySem.Str.ofString "Bad value substitution: option " ++ t ++ PySem.Str.ofString " in section " ++ t2 ++ PySem.Str.ofString " contains an interpolation key " ++ t3 ++ PySem.Str.ofString " which is not a valid option name. Raw value: " ++ t4) (fun _ => True)) := by
  apply meets_rep
  intro A s Q E a1 a2 a3 a4 g ht hQ
  unfold Builtin.«str.format»
  refine wpAny_bind (wpAny_of_eq (a := (_, _, _)) rfl ?_)
  refine wpAny_bind ?_
  unfold Builtin.Str.buildString
  refine wpAny_bind ?_
  rw [KPc.range_list]
  refine KFm.start ?_
  intro _ _
  refine KPc.turn ?_; kpc_if; kpc_check
  refine wpAny_bind (KFm.field_auto (by kfm_num) (by rfl) ?_)
  refine wpAny_bind (wpAny_holding ?_)
  refine r1.obj _ _ _ _ a1 a2 (Nat.le_trans a3 (by decide)) (Nat.le_trans a4 (by decide)) (g) fun h1 u1 tk1 g1 => ?_
  kpc_if
  refine wpAny_bind (wpAny_pure ?_)
  refine wpAny_bind (wpAny_holding (wpAny_of_eq (KFm.formatOf_str _ _) ?_))
  refine wpAny_bind (wpAny_of_eq (a := some _) rfl ?_)
  refine wpAny_pure ?_
  refine KFm.after_field (by kpc_g) (by kpc_text) (by kpc_obj) r1.short (by kpc_obj) (by kfm_cat2) (by kfm_rest) ?_
  intro _ _
  refine KPc.turn ?_; kpc_if; kpc_check
  refine wpAny_bind (KFm.field_auto (by kfm_num) (by rfl) ?_)
  refine wpAny_bind (wpAny_holding ?_)
  refine r2.obj _ _ _ _ a1 a2 (Nat.le_trans a3 (by decide)) (Nat.le_trans a4 (by decide)) (g.trans g1) fun h2 u2 tk2 g2 => ?_
  kpc_if
  refine wpAny_bind (wpAny_pure ?_)
  refine wpAny_bind (wpAny_holding (wpAny_of_eq (KFm.formatOf_str _ _) ?_))
  refine wpAny_bind (wpAny_of_eq (a := some _) rfl ?_)
  refine wpAny_pure ?_
  refine KFm.after_field (by kpc_g) (by kpc_text) (by kpc_obj) r2.short (by kpc_obj) (by kfm_cat2) (by kfm_rest) ?_
  intro _ _
  refine KPc.turn ?_; kpc_if; kpc_check
  refine wpAny_bind (KFm.field_auto (by kfm_num) (by rfl) ?_)
  refine wpAny_bind (wpAny_holding ?_)
  refine r3.obj _ _ _ _ a1 a2 (Nat.le_trans a3 (by decide)) (Nat.le_trans a4 (by decide)) ((g.trans g1).trans g2) fun h3 u3 tk3 g3 => ?_
  kpc_if
  refine wpAny_bind (wpAny_pure ?_)
  refine wpAny_bind (wpAny_holding (wpAny_of_eq (KFm.formatOf_str _ _) ?_))
  refine wpAny_bind (wpAny_of_eq (a := some _) rfl ?_)
  refine wpAny_pure ?_
  refine KFm.after_field (by kpc_g) (by kpc_text) (by kpc_obj) r3.short (by kpc_obj) (by kfm_cat2) (by kfm_rest) ?_
  intro _ _
  refine KPc.turn ?_; kpc_if; kpc_check
  refine wpAny_bind (KFm.field_auto (by kfm_num) (by rfl) ?_)
  refine wpAny_bind (wpAny_holding ?_)
  refine r4.obj _ _ _ _ a1 a2 (Nat.le_trans a3 (by decide)) (Nat.le_trans a4 (by decide)) (((g.trans g1).trans g2).trans g3) fun h4 u4 tk4 g4 => ?_
  kpc_if
  refine wpAny_bind (wpAny_pure ?_)
  refine wpAny_bind (wpAny_holding (wpAny_of_eq (KFm.formatOf_str _ _) ?_))
  refine wpAny_bind (wpAny_of_eq (a := some _) rfl ?_)
  refine wpAny_pure ?_
  refine KFm.after_field (by kpc_g) (by kpc_text) (by kpc_obj) r4.short (by kpc_obj) (by kfm_cat2) (by kfm_rest) ?_
  intro _ _
  refine KPc.turn ?_; kpc_if
  refine wpAny_pure ?_
  refine wpAny_pure ?_
  refine KPc.finish_ok (by kpc_g) (by decide +kernel) rfl ?_
  exact fun t' k => hQ _ _ _ (((g1.trans g2).trans g3).trans g4)
theorem fmtD_meets {hb : Heap} {tk t10 : Tok} (r1 : Rep prog w hb v t) (r2 : Rep prog w hb v2 t2) (r4 : Rep prog w hb v4 t4) :
    MeetsIn prog w («str.format» ⟨[.str (PySem.Str.ofString "Recursion limit exceeded in value substitution: option {!r} in section {!r} contains an interpolation key which cannot be substituted in {} steps. Raw value: {!r}") tk, v, v2, .int 10 t10, v4], []⟩) (RSpec hb (PySem.Str.ofString "Recursion limit exceeded in value substitution: option " ++ t ++ PySem.Str.ofString " in section " ++ t2 ++ PySem.Str.ofString " contains an interpolation key which cannot be substituted in " ++ PySem.Str.ofString "10" ++ PySem.Str.ofString " steps. Raw value: " ++ t4) (fun _ => True)) := by
  apply meets_rep
  intro A s Q E a1 a2 a3 a4 g ht hQ
  unfold Builtin.«str.format»
  refine wpAny_bind (wpAny_of_eq (a := (_, _, _)) rfl ?_)
  refine wpAny_bind ?_
  unfold Builtin.Str.buildString
  refine wpAny_bind ?_
  rw [KPc.range_list]
  refine KFm.start ?_
  intro _ _
  refine KPc.turn ?_; kpc_if; kpc_check
  refine wpAny_bind (KFm.field_auto (by kfm_num) (by rfl) ?_)
  refine wpAny_bind (wpAny_holding ?_)
  refine r1.obj _ _ _ _ a1 a2 (Nat.le_trans a3 (by decide)) (Nat.le_trans a4 (by decide)) (g) fun h1 u1 tk1 g1 => ?_
  kpc_if
  refine wpAny_bind (wpAny_pure ?_)
  refine wpAny_bind (wpAny_holding (wpAny_of_eq (KFm.formatOf_str _ _) ?_))
  refine wpAny_bind (wpAny_of_eq (a := some _) rfl ?_)
  refine wpAny_pure ?_
  refine KFm.after_field (by kpc_g) (by kpc_text) (by kpc_obj) r1.short (by kpc_obj) (by kfm_cat2) (by kfm_rest) ?_
  intro _ _
  refine KPc.turn ?_; kpc_if; kpc_check
  refine wpAny_bind (KFm.field_auto (by kfm_num) (by rfl) ?_)
  refine wpAny_bind (wpAny_holding ?_)
  refine r2.obj _ _ _ _ a1 a2 (Nat.le_trans a3 (by decide)) (Nat.le_trans a4 (by decide)) (g.trans g1) fun h2 u2 tk2 g2 => ?_
  kpc_if
  refine wpAny_bind (wpAny_pure ?_)
  refine wpAny_bind (wpAny_holding (wpAny_of_eq (KFm.formatOf_str _ _) ?_))
  refine wpAny_bind (wpAny_of_eq (a := some _) rfl ?_)
  refine wpAny_pure ?_
  refine KFm.after_field (by kpc_g) (by kpc_text) (by kpc_obj) r2.short (by kpc_obj) (by kfm_cat2) (by kfm_rest) ?_
  intro _ _
  refine KPc.turn ?_; kpc_if; kpc_check
  refine wpAny_bind (KFm.field_auto (by kfm_num) (by rfl) ?_)
  refine wpAny_bind (wpAny_holding (wpAny_of_eq (a := _) rfl ?_))
  kpc_if
  refine wpAny_bind (wpAny_pure ?_)
  refine wpAny_bind (wpAny_holding (KFm.formatOf_int (by decide +kernel) ?_)); intro _ _
  refine wpAny_bind (wpAny_of_eq (a := some _) rfl ?_)
  refine wpAny_pure ?_
  refine KFm.after_field (K := 100) (by kpc_g) (by kpc_text) (by kpc_obj) (by decide +kernel) (by kpc_obj) (by kfm_cat2) (by kfm_rest) ?_
  intro _ _
  refine KPc.turn ?_; kpc_if; kpc_check
  refine wpAny_bind (KFm.field_auto (by kfm_num) (by rfl) ?_)
  refine wpAny_bind (wpAny_holding ?_)
  refine r4.obj _ _ _ _ a1 a2 (Nat.le_trans a3 (by decide)) (Nat.le_trans a4 (by decide)) (((g.trans g1).trans g2)) fun h4 u4 tk4 g4 => ?_
  kpc_if
  refine wpAny_bind (wpAny_pure ?_)
  refine wpAny_bind (wpAny_holding (wpAny_of_eq (KFm.formatOf_str _ _) ?_))
  refine wpAny_bind (wpAny_of_eq (a := some _) rfl ?_)
  refine wpAny_pure ?_
  refine KFm.after_field (by kpc_g) (by kpc_text) (by kpc_obj) r4.short (by kpc_obj) (by kfm_cat2) (by kfm_rest) ?_
  intro _ _
  refine KPc.turn ?_; kpc_if
  refine wpAny_pure ?_
  refine wpAny_pure ?_
  refine KPc.finish_ok (by kpc_g) (by decide +kernel) rfl ?_
  exact fun t' k => hQ _ _ _ (((g1.trans g2).trans g4))
theorem fmt_rep {hb : Heap} {X T : PySem.Str} {tk : Tok} {vs : List Value} {Q : Value → Shared → Prop} (hR : Room A) (g : Grow hb s.heap) (ha : argsOk "str.format" ⟨.str X tk :: vs, []⟩)
    (hm : MeetsIn prog w («str.format» ⟨.str X tk :: vs, []⟩) (RSpec hb T (fun _ => True)))
    (h : ∀ h' t' k, Grow s.heap h' → Q (.str T t') { s with heap := h', toks := k }) : wpAny (model prog w) A (call (.builtin "str.format") (.str X tk :: vs)) Q E s :=
  call_meetsIn F.slot_str_format_m (typeIs_str s X tk) F.entry_str_format_m ha hm ⟨hR, g, trivial, h⟩
end
end Mine
end
section
open PySem PySem.W PySem.Calls PyProof.Rows Builtin Builtin.Str
set_option Elab.async false
set_option maxRecDepth 100000
set_option maxHeartbeats 4000000
namespace Mine
section
variable {prog : Program} {w : World} {A : Around} {E : Value → Shared → Prop} {s : Shared} {h₀ : Heap} {L : Addr} {m : PySem.Str → Option Value} {news : List (Addr × Obj)} {Q : Value → Shared → Prop} {X T : PySem.Str} {tk : Tok}
theorem reprObj_use {v : Value} {t : PySem.Str} (r : Rep prog w h₀ v t) (F : Fr h₀ L s.heap m) (N : News h₀ L s.heap news) (h1 : A.handled = none) (h2 : A.guards = some []) (h3 : A.depth ≤ 800) (h4 : A.units ≤ 4000)
    (h : ∀ h' u tk, Fr h₀ L h' m → News h₀ L h' news → Q (.str t u) { s with heap := h', toks := tk }) : wpAny (model prog w) A (pyReprObj v) Q E s :=
  r.obj A s Q E h1 h2 h3 h4 F.keep fun h' u tk g => h h' u tk (fr_grow F g) (news_grow N g)
theorem fmt_use {vs : List Value} (F : Fr h₀ L s.heap m) (N : News h₀ L s.heap news) (hR : Room A) (ha : argsOk "str.format" ⟨.str X tk :: vs, []⟩)
    (hm : MeetsIn prog w («str.format» ⟨.str X tk :: vs, []⟩) (RSpec h₀ T (fun _ => True)))
    (h : ∀ h' u tk, Fr h₀ L h' m → News h₀ L h' news → Q (.str T u) { s with heap := h', toks := tk }) : wpAny (model prog w) A (call (.builtin "str.format") (.str X tk :: vs)) Q E s :=
  fmt_rep hR F.keep ha hm fun h' u k g => h h' u k (fr_grow F g) (news_grow N g)
end
end Mine
end
section
open PySem PySem.W PySem.Calls PyProof.Rows Builtin Builtin.List
set_option Elab.async false
set_option maxRecDepth 100000
set_option maxHeartbeats 4000000
namespace Mine
/-- how an item within a tuple or list is written -/
def RepI (prog : Program) (w : World) (hb : Heap) (v : Value) (t : PySem.Str) : Prop := ∀ (base : Nat), base + t.length ≤ sizeLine → ∀ (A : Around) (E : Value → Shared → Prop) (s : Shared) (Q : PySem.Str → Shared → Prop), A.handled = none → A.depth ≤ 850 → A.units ≤ 4200 → Grow hb s.heap →
  (∀ h' tk, Grow s.heap h' → Q t { s with heap := h', toks := tk }) → wpAny (model prog w) A (pyReprUnder base v) Q E s
section
variable {prog : Program} {w : World} {A : Around} {E : Value → Shared → Prop} {s : Shared} {K : Frag} {x C f : Addr} {ox : Obj} {od : Option Obj} {hb : Heap} {t : PySem.Str}
theorem repI_str {y : PySem.Str} {k : Tok} (hl : (reprText y).length ≤ 1000000) : RepI prog w hb (.str y k) (reprText y) := fun base hb A E s Q _ _ _ _ h =>
  ReprIs.str y k (by rw [sizeLine_eq]; omega) base hb A E s Q fun tk => h s.heap tk fun _ _ e => e
theorem RepI.mono {h' : Heap} {v : Value} (r : RepI prog w hb v t) (g : Grow hb h') : RepI prog w h' v t := fun base hl A E s Q a b c d e => r base hl A E s Q a b c (g.trans d) e
theorem by_K {last : Value → List Value → Sem Value} {M : Model} {Q : Value → Shared → Prop} (hu : A.units < cLine) (X : K.In s.heap) (I : InstAt s.heap x ox C od) (hs : findIn K (.ref C) "__repr__" = some (some (.ref f))) (hf : isFn K (.ref f) = true)
    (h : wpAny M A (last (.ref f) [.ref x]) (StrBack Q) E s) : wpAny M A (pyReprObjBy last (.ref x)) Q E s := by
  unfold pyReprObjBy
  refine wpAny_bind (wpAny_cRoomFor hu ?_)
  refine wpAny_bind (wpAny_bind (I.type.here ((looks_findIn X hs).here ?_)))
  show wpAny _ _ (if (some (Value.ref f)).isNone = true then _ else _) _ _ _
  rw [if_neg (by simp)]
  have key : wpAny M A (callSpecialIfBoundBy? last (.ref x) (PySem.Str.ofString "__repr__")) (fun r s' => ∃ y u, r = some (.str y u) ∧ Q (.str y u) s') E s := by
    simp only [callSpecialIfBoundBy?, bindSpecialIfBound?]
    refine wpAny_holding (wpAny_bind (wpAny_bind (wpAny_bind (I.type.here ((looks_findIn X hs).here ?_)))))
    refine wpAny_bind (wpAny_askSetting (wpAny_ite ?_))
    have fin : wpAny M A (last (.ref f) [.ref x] >>= fun v => pure (some v)) (fun r s' => ∃ y u, r = some (.str y u) ∧ Q (.str y u) s') E s := wpAny_bind (wpAny_mono h (fun v s' hv => wpAny_pure (by cases v <;> first | exact hv.elim | exact ⟨_, _, rfl, hv⟩)) fun _ _ e => e)
    split
    · exact wpAny_bind ((bind_fn X _ (beq_iff_eq.mp hf)).here (wpAny_pure (by exact fin)))
    · exact wpAny_tryCatch (wpAny_bind ((bind_fn X _ (beq_iff_eq.mp hf)).here (wpAny_pure (by exact fin))))
  refine wpAny_bind (wpAny_mono key (fun r s' hr => ?_) fun _ _ e => e)
  obtain ⟨y, u, rfl, hq⟩ := hr
  exact wpAny_bind (wpAny_isInstance (typeIs_str _ _ _) isSubtype_str_str (wpAny_pure hq))
/-- what the def __repr__ of a class gives for x, whatever stands around -/
def Tells (prog : Program) (w : World) (hb : Heap) (f x : Addr) (t : PySem.Str) : Prop := ∀ (A : Around) (s : Shared) (Q E : Value → Shared → Prop), A.handled = none → A.depth ≤ 880 → A.units ≤ 4400 → Grow hb s.heap →
  (∀ h' u tk, Grow s.heap h' → Q (.str t u) { s with heap := h', toks := tk }) → wpAny (model prog w) A (PySem.call (.ref f) [.ref x]) Q E s
theorem inst_grow {h h' : Heap} (I : InstAt h x ox C od) (g : Grow h h') : InstAt h' x ox C od := by
  obtain ⟨a, b, c, d⟩ := I
  refine ⟨g _ _ a, b, c, ?_⟩
  cases e : ox.dict with
  | none => rw [e] at d; cases od with
    | none => exact d
    | some o => exact d
  | some q => rw [e] at d; cases od with
    | none => exact d
    | some o => exact g _ _ d
theorem units_ok {n k : Nat} (h : n ≤ k) (hk : k < cLine) : n < cLine := Nat.lt_of_le_of_lt h hk
theorem rep_inst (X : K.In hb) (I : InstAt hb x ox C od) (hs : findIn K (.ref C) "__repr__" = some (some (.ref f))) (hf : isFn K (.ref f) = true) (c : Tells prog w hb f x t) (hl : t.length ≤ 1000000) : Rep prog w hb (.ref x) t where
  call := fun A s Q E a1 a2 a3 a4 g h => by
    refine Calls.call_function_entry PySem.F.kind_repr PySem.F.plain_repr PySem.F.entry_repr (PySem.F.args_repr1 _) ?_
    unfold Builtin.«repr»
    refine wpAny_bind (m := oneArg "repr" _) (wpAny_pure ?_)
    have X' := X.keeps g
    have I' := inst_grow I g
    refine wpAny_bind (wpAny_cRoomFor (units_ok (Nat.succ_le_succ a4) (by decide +kernel)) ?_)
    refine wpAny_bind (wpAny_bind (I'.type.here ((looks_findIn X' hs).here ?_)))
    show wpAny _ _ (if (some (Value.ref f)).isNone = true then _ else _) _ _ _
    rw [if_neg (by simp)]
    refine wpAny_bind (m := callSpecialIfBound? (.ref x) (PySem.Str.ofString "__repr__") _) (ifBound_K X' I' hs hf (c _ _ _ _ a1 (Nat.le_trans a3 (by decide)) (Nat.le_trans (Nat.succ_le_succ a4) (by decide)) g fun h' u tk g' => ?_))
    refine wpAny_bind (wpAny_isInstance (typeIs_str _ _ _) isSubtype_str_str ?_)
    exact wpAny_pure ⟨_, rfl, h h' u tk g'⟩
  obj := fun A s Q E a1 a2 a3 a4 g h => by
    rw [pyReprObj_eq_pyReprObjBy]
    exact by_K (units_ok a4 (by decide +kernel)) (X.keeps g) (inst_grow I g) hs hf (c _ _ _ _ a1 (Nat.le_trans a3 (by decide)) (Nat.le_trans a4 (by decide)) g h)
  under := fun n hn A s Q E a1 a2 a3 a4 g h => by
    unfold pyReprObjUnder
    exact by_K (units_ok a4 (by decide +kernel)) (X.keeps g) (inst_grow I g) hs hf (c _ _ _ _ a1 (Nat.le_trans a3 (by decide)) (Nat.le_trans a4 (by decide)) g h)
  short := hl
theorem repI_inst (X : K.In hb) (I : InstAt hb x ox C od) (hs : findIn K (.ref C) "__repr__" = some (some (.ref f))) (hf : isFn K (.ref f) = true) (c : Tells prog w hb f x t) : RepI prog w hb (.ref x) t := fun base hbs A E s Q a1 a3 a4 g h => by
  refine wpAny_pyReprUnder_ref (by omega) ?_
  unfold pyReprObjUnder
  exact by_K (units_ok a4 (by decide +kernel)) (X.keeps g) (inst_grow I g) hs hf (c _ _ _ _ a1 (Nat.le_trans a3 (by decide)) (Nat.le_trans a4 (by decide)) g fun h' u tk g' => ⟨_, _, rfl, h h' tk g'⟩)
/-- the items of a tuple, one by one -/
inductive RepAll (prog : Program) (w : World) (hb : Heap) : List Value → List PySem.Str → Prop
  | nil : RepAll prog w hb [] []
  | cons {v : Value} {t : PySem.Str} {l : List Value} {ts : List PySem.Str} : RepI prog w hb v t → RepAll prog w hb l ts → RepAll prog w hb (v :: l) (t :: ts)
theorem RepAll.len : ∀ {l : List Value} {ts : List PySem.Str}, RepAll prog w hb l ts → ts.length = l.length
  | _, _, .nil => rfl
  | _, _, .cons _ r => by simp [r.len]
theorem items_told (a1 : A.handled = none) (a3 : A.depth ≤ 850) (a4 : A.units ≤ 4200) : ∀ {l : List Value} {ts : List PySem.Str} (acc : Array PySem.Str) (n : Nat) (s : Shared) (Q : (Array PySem.Str × Nat) → Shared → Prop), RepAll prog w hb l ts → n + piled ts ≤ sizeLine → Grow hb s.heap →
    (∀ h' tk, Grow s.heap h' → Q (acc ++ ts.toArray, n + piled ts) { s with heap := h', toks := tk }) → wpAny (model prog w) A (forIn l (acc, n) tupBody) Q E s := by
  intro l ts acc n s Q r
  induction r generalizing acc n s Q with
  | nil =>
    intro _ _ h
    rw [List.forIn_nil]
    have := h s.heap s.toks (Grow.refl _)
    exact wpAny_pure (by simpa [piled] using this)
  | @cons v t l ts hv r ih =>
    intro hn g h
    have hp : piled (t :: ts) = (t.length + 2) + piled ts := piled_cons t ts
    rw [List.forIn_cons]
    refine wpAny_bind (wpAny_bind (hv (n + 1) (by omega) A E s _ a1 a3 a4 g fun h1 k1 g1 => wpAny_pure ?_))
    refine ih (acc.push t) (n + (t.length + 2)) _ Q (by omega) (g.trans g1) fun h2 k2 g2 => ?_
    have q := h h2 k2 (g1.trans g2)
    rw [show n + piled (t :: ts) = n + (t.length + 2) + piled ts by omega] at q
    simpa using q
theorem tup_own {a : Addr} {o : Obj} {its : Array Value} {n : Nat} {ts : List PySem.Str} (ha : hb.get? a = some o) (hd : o.data = .seq its n) (hT : RepAll prog w hb its.toList ts)
    {R : Result → Shared → Prop} {base : Nat} {id : String} {rest : List Value} (hcu : (A.under (.builtin id ⟨.ref a :: rest, []⟩)).units = A.units + 1)
    (a1 : A.handled = none) (a2 : A.guards = some []) (a3 : A.depth ≤ 800) (a4 : A.units ≤ 4100) (g : Grow hb s.heap)
    (hR : ∀ h' u tk, Grow s.heap h' → R (.ok (.ret (.str (tupleText ts) u))) { s with heap := h', toks := tk }) (hz : base + (tupleText ts).length ≤ sizeLine) (hh : (A.under (.builtin id ⟨.ref a :: rest, []⟩)).handled = A.handled) (hdp : (A.under (.builtin id ⟨.ref a :: rest, []⟩)).depth ≤ A.depth + 1) :
    wpOwn (model prog w) A (.builtin id ⟨.ref a :: rest, []⟩) (Builtin.tupleReprAt base ⟨[.ref a], []⟩) (fun fin s' => match fin with | .done f => R (.ok f) s' | .again c' => c'.quiet = true ∧ codeAny (model prog w) A c' R s') (fun e s' => R (.error e) s') s := by
  have hp := piled_le_tupleText ts
  have hlen : ts.length = its.size := by simpa using hT.len
  rw [tuple_repr_tree, tupleReprUnderWay_eq]
  refine wpOwn_bind (wpOwn_stackTailAny a2 (tupGuardF_off _) (tupGuardF_pos _) ?_)
  refine wpOwn_of_wpAny ?_
  show wpAny _ _ (tupleReprRest base (.ref a)) _ _ s
  unfold tupleReprRest Builtin.Tuple.tupleItemsOf
  refine wpAny_bind (wpAny_bind (wpAny_seqItems (g _ _ ha) hd (wpAny_pure ?_)))
  rw [← Array.forIn_toList]
  refine wpAny_bind (items_told (hh.trans a1) (by omega) (by rw [hcu]; omega) _ _ _ _ hT (by omega) g fun h' tk g' => ?_)
  refine wpAny_bind (wpAny_mkStr (wpAny_pure ?_) (by simpa [tupleText, hlen] using (by omega : (tupleText ts).length ≤ sizeLine)))
  have q := hR h' tk (tk + 1) g'
  simpa [tupleText, hlen] using q
theorem wt_tup (args : Args) : (Code.builtin "tuple.__repr__" args).weight = 1 := by kernel_rfl
theorem wt_tupU (args : Args) : (Code.builtin "tuple.__repr__.under" args).weight = 1 := by kernel_rfl
theorem dep_tup (A : Around) (args : Args) : (A.under (.builtin "tuple.__repr__" args)).depth ≤ A.depth + 1 := by
  show A.depth + Code.weight _ ≤ _
  rw [wt_tup]; omega
theorem dep_tupU (A : Around) (args : Args) : (A.under (.builtin "tuple.__repr__.under" args)).depth ≤ A.depth + 1 := by
  show A.depth + Code.weight _ ≤ _
  rw [wt_tupU]; omega
theorem rep_tup {a : Addr} {o : Obj} {its : Array Value} {n : Nat} {ts : List PySem.Str} (ha : hb.get? a = some o) (hc : o.cls = .type "tuple") (hd : o.data = .seq its n) (hT : RepAll prog w hb its.toList ts) (hl : (tupleText ts).length ≤ 1000000) : Rep prog w hb (.ref a) (tupleText ts) := by
  have hz := sizeLine_eq
  have direct : ∀ (A : Around) (s : Shared) (Q E : Value → Shared → Prop), A.handled = none → A.guards = some [] → A.depth ≤ 800 → A.units ≤ 4100 → Grow hb s.heap →
      (∀ h' u tk, Grow s.heap h' → Q (.str (tupleText ts) u) { s with heap := h', toks := tk }) → wpAny (model prog w) A (PySem.call (.builtin "tuple.__repr__") [.ref a]) Q E s := fun A s Q E a1 a2 a3 a4 g h =>
    wpAny_call (codeAny_call_builtin_own (Code.quiet_builtin _ (by decide +kernel)) F.entry_tuple_repr (F.slot_tuple_repr.check _ _ _ _ _ _ _ _ ⟨o, g _ _ ha, hc⟩ (F.args_tuple_repr_1 _)
      (tup_own (base := 0) (R := callEnd Q E) ha hd hT (units_under_tuple_repr _ _) a1 a2 a3 a4 g h (by omega) rfl (dep_tup _ _))))
  refine ⟨fun A s Q E a1 a2 a3 a4 g h => ?_, fun A s Q E a1 a2 a3 a4 g h => ?_, fun m hm A s Q E a1 a2 a3 a4 g h => ?_, hl⟩
  · have hTy : s.TypeIs (.ref a) "tuple" := ⟨o, g _ _ ha, hc⟩
    refine Calls.call_function_entry PySem.F.kind_repr PySem.F.plain_repr PySem.F.entry_repr (PySem.F.args_repr1 _) ?_
    unfold Builtin.«repr»
    refine wpAny_bind (m := oneArg "repr" _) (wpAny_pure ?_)
    refine wpAny_bind (wpAny_cRoomFor (units_ok (Nat.succ_le_succ a4) (by decide +kernel)) ?_)
    refine wpAny_bind (wpAny_specialOf (name := PySem.Str.ofString "__repr__") hTy F.slot_tuple_repr.lookup ?_)
    refine wpAny_bind (m := callSpecialIfBound? (.ref a) (PySem.Str.ofString "__repr__") _) (wpAny_callSpecialIfBound?_slotG (name := PySem.Str.ofString "__repr__") hTy F.slot_tuple_repr
      (direct _ _ _ _ a1 a2 a3 (Nat.le_trans (Nat.succ_le_succ a4) (by decide)) g fun h' u tk g' => ?_))
    exact wpAny_bind (wpAny_isInstance (T := "str") (b := true) rfl isSubtype_str_str (wpAny_pure ⟨_, rfl, h h' u tk g'⟩))
  · have hTy : s.TypeIs (.ref a) "tuple" := ⟨o, g _ _ ha, hc⟩
    unfold pyReprObj
    refine wpAny_bind (wpAny_cRoomFor (units_ok a4 (by decide +kernel)) ?_)
    refine wpAny_bind (wpAny_specialOf (name := PySem.Str.ofString "__repr__") hTy F.slot_tuple_repr.lookup ?_)
    refine wpAny_bind (m := callSpecialIfBound? (.ref a) (PySem.Str.ofString "__repr__")) (wpAny_callSpecialIfBound?_slotG (name := PySem.Str.ofString "__repr__") hTy F.slot_tuple_repr
      (direct _ _ _ _ a1 a2 a3 (Nat.le_trans a4 (by decide)) g fun h' u tk g' => ?_))
    exact wpAny_bind (wpAny_isInstance (T := "str") (b := true) rfl isSubtype_str_str (wpAny_pure (h h' u tk g')))
  · exact wpAny_pyReprObjUnder_twin (twin := "tuple.__repr__.under") ⟨o, g _ _ ha, hc⟩ F.slot_tuple_repr rfl (units_ok a4 (by decide +kernel))
      (call_twin_own (F.quiet_tuple_repr_under _) F.entry_tuple_repr_under F.check_tuple_repr_under ⟨o, g _ _ ha, hc⟩ F.slot_tuple_repr (F.args_tuple_repr_1 _)
        (tup_own (R := callEnd _ E) ha hd hT (units_under_tuple_repr_under _ _) a1 a2 a3 (Nat.le_trans a4 (by decide)) g (fun h' u tk g' => ⟨⟨_, _, rfl⟩, h h' u tk g'⟩) (by omega) rfl (dep_tupU _ _)))
end
end Mine
end
section
open PySem PySem.W PySem.Calls PyProof.Rows Builtin Builtin.List
set_option Elab.async false
set_option maxRecDepth 100000
set_option maxHeartbeats 4000000
namespace Mine
def partsObj (acc : Array Value) (c : Nat) : Obj := { cls := .type "list", dict := none, data := .seq acc c, slots := #[] }
theorem wt_loop (args : Args) : (Code.builtin "list.__repr__.loop" args).weight = 1 := by kernel_rfl
section
variable {prog : Program} {w : World} {A : Around} {E : Value → Shared → Prop} {s : Shared} {hb : Heap} {R : Result → Shared → Prop}
/-- one item of a list is written -/
theorem loop_item {a P : Addr} {its acc : Array Value} {na c i b : Nat} {v : Value} {t : PySem.Str} {oa : Obj} (hv : its[i]? = some v) (r : RepI prog w hb v t) (a1 : A.handled = none) (a3 : A.depth ≤ 800) (a4 : A.units ≤ 4100)
    (g : Grow hb s.heap) (hP0 : hb.get? P = none) (ha : hb.get? a = some oa) (hda : oa.data = .seq its na) (hP : s.heap.get? P = some (partsObj acc c)) (hbt : b + 1 + t.length ≤ sizeLine) (hac : acc.size ≤ 1000)
    (next : ∀ h' tk c', Grow hb h' → (∀ q o, q ≠ P → s.heap.get? q = some o → h'.get? q = some o) → h'.get? P = some (partsObj (acc.push (.str t tk)) c') →
      codeAny (model prog w) A (.builtin "list.__repr__.loop" ⟨[.ref a, rawInt ((i + 1 : Nat) : Int), .ref P, rawInt ((b + (t.length + 2) : Nat) : Int)], []⟩) R { s with heap := h', toks := tk + 1 }) :
    codeAny (model prog w) A (.builtin "list.__repr__.loop" ⟨[.ref a, rawInt (i : Int), .ref P, rawInt (b : Int)], []⟩) R s := by
  have hz := sizeLine_eq
  refine codeAny_builtin F.entry_list_repr_loop ?_
  show wpAny _ _ («list.__repr__.loop» ⟨[.ref a, .int i 0, .ref P, .int (b : Int) 0], []⟩) _ _ s
  rw [repr_loop_tree]
  refine wpAny_bind (wpAny_listItems (g _ _ ha) hda ?_)
  simp only [Int.toNat_natCast, hv]
  refine wpAny_bind (wpAny_holding (r (b + 1) hbt _ _ _ _ a1 ?_ (by rw [units_under_list_loop]; omega) g fun h1 k1 g1 => ?_))
  · show A.depth + Code.weight _ ≤ _
    rw [wt_loop]; omega
  refine wpAny_bind (wpAny_mkStr ?_ (by omega))
  refine wpAny_bind ?_
  show wpAny _ _ (updateSeq P _) _ _ _
  refine wpAny_updateSeq (g1 _ _ hP) rfl (wpAny_pure ⟨F.quiet_list_repr_loop _, ?_⟩) (by omega)
  have e1 : ((i : Int) + 1) = ((i + 1 : Nat) : Int) := by omega
  rw [e1]
  exact next _ k1 _ (fun q o e => (Heap.get?_update_other _ _ (fun z : P = q => by rw [← z, hP0] at e; cases e)).trans (g1 _ _ (g _ _ e)))
    (fun q o hq e => (Heap.get?_update_other _ _ (fun z : P = q => hq z.symm)).trans (g1 _ _ e)) (Heap.get?_update_self _ (g1 _ _ hP) rfl)
/-- all of them are -/
theorem loop_done {a P : Addr} {its : Array Value} {na c i b : Nat} {oa : Obj} {done : List (PySem.Str × Tok)} {T : PySem.Str} (hv : its[i]? = none) (g : Grow hb s.heap) (ha : hb.get? a = some oa) (hda : oa.data = .seq its na) (hP : s.heap.get? P = some (partsObj (strValues done).toArray c))
    (hT : listText (done.map (·.1)) = T) (hl : T.length ≤ sizeLine) (hR : ∀ u tk, R (.ok (.ret (.str T u))) { s with toks := tk }) :
    codeAny (model prog w) A (.builtin "list.__repr__.loop" ⟨[.ref a, rawInt (i : Int), .ref P, rawInt (b : Int)], []⟩) R s := by
  subst hT
  refine codeAny_builtin F.entry_list_repr_loop ?_
  show wpAny _ _ («list.__repr__.loop» ⟨[.ref a, .int i 0, .ref P, .int (b : Int) 0], []⟩) _ _ s
  rw [repr_loop_tree]
  refine wpAny_bind (wpAny_listItems (g _ _ ha) hda ?_)
  simp only [Int.toNat_natCast, hv]
  unfold reprEnd
  refine wpAny_bind (wpAny_listItems hP rfl ?_)
  rw [show (strValues done).toArray.toList = strValues done by simp, repr_fold]
  refine wpAny_bind (wpAny_pure ?_)
  exact wpAny_bind (wpAny_mkStr (wpAny_pure (hR _ _)) hl)
/-- a list of two is written -/
theorem two_told {a : Addr} {na base : Nat} {v1 v2 : Value} {t1 t2 : PySem.Str} {oa : Obj} (r1 : RepI prog w hb v1 t1) (r2 : RepI prog w hb v2 t2) (ha : hb.get? a = some oa) (hda : oa.data = .seq #[v1, v2] na) (a1 : A.handled = none) (a2 : A.guards = some []) (a3 : A.depth ≤ 800) (a4 : A.units ≤ 4100) (g : Grow hb s.heap)
    (l1 : t1.length ≤ 100000) (l2 : t2.length ≤ 100000) (hbs : base ≤ 2000000)
    (hR : ∀ h' u tk, Grow s.heap h' → R (.ok (.ret (.str (listText [t1, t2]) u))) { s with heap := h', toks := tk }) :
    wpAny (model prog w) A.in1 (Builtin.listReprAt base ⟨[.ref a], []⟩) (fun fin s' => match fin with | .done f => R (.ok f) s' | .again c' => c'.quiet = true ∧ codeAny (model prog w) A c' R s') (fun e s' => R (.error e) s') s := by
  have hz := sizeLine_eq
  have hP0 : hb.get? s.heap.objs.size = none := by
    cases e : hb.get? s.heap.objs.size with
    | none => rfl
    | some o => exact absurd (Heap.lt_size (g _ _ e)) (Nat.lt_irrefl _)
  refine wpAny_list_repr_head (A := A.in1) a2 (fun v rest kw hm => nomatch hm) (g _ _ ha) (x := v1) (l := [v2]) hda ?_
  refine wpAny_bind (m := newList []) (wpAny_newObj_type ?_)
  refine wpAny_pure ⟨F.quiet_list_repr_loop _, ?_⟩
  refine loop_item (i := 0) (its := #[v1, v2]) (v := v1) (acc := #[]) rfl r1 a1 a3 a4 (fun b o e => Heap.get?_push_of_some _ (g _ _ e)) hP0 ha hda (Heap.get?_push_size _ rfl) (by omega) (by decide) fun h1 k1 c1 g1 q1 p1 => ?_
  refine loop_item (i := 1) (its := #[v1, v2]) (v := v2) rfl r2 a1 a3 a4 g1 hP0 ha hda p1 (by omega) (by simp) fun h2 k2 c2 g2 q2 p2 => ?_
  refine loop_done (i := 2) (its := #[v1, v2]) (done := [(t1, k1), (t2, k2)]) rfl g2 ha hda p2 rfl ?_ fun u tk => hR _ _ _ fun b o e => ?_
  · have h := textFrom_len [t1, t2] 0 "["
    show (textFrom 0 "[" [t1, t2] ++ "]").length ≤ _
    rw [strLen_append]
    have e1 : (textFrom 0 "[" [t1, t2]).length ≤ 200100 := by
      show ((("[" : PySem.Str) ++ (if (0 : Nat) > 0 then ", " else "" : String) ++ t1) ++ (if (0 : Nat) + 1 > 0 then ", " else "" : String) ++ t2).length ≤ _
      simp only [strLen_append]
      have x1 : (PySem.Str.ofString "[").length = 1 := rfl
      have x2 : (PySem.Str.ofString (if (0 : Nat) > 0 then ", " else "" : String)).length = 0 := rfl
      have x3 : (PySem.Str.ofString (if (0 : Nat) + 1 > 0 then ", " else "" : String)).length = 2 := rfl
      omega
    have e2 : (PySem.Str.ofString "]").length = 1 := rfl
    omega
  · have hne : b ≠ s.heap.objs.size := Nat.ne_of_lt (Heap.lt_size e)
    exact q2 b o hne (q1 b o hne (Heap.get?_push_of_some _ e))
theorem rep_list2 {a : Addr} {na : Nat} {v1 v2 : Value} {t1 t2 : PySem.Str} {oa : Obj} (r1 : RepI prog w hb v1 t1) (r2 : RepI prog w hb v2 t2) (ha : hb.get? a = some oa) (hc : oa.cls = .type "list") (hda : oa.data = .seq #[v1, v2] na)
    (l1 : t1.length ≤ 100000) (l2 : t2.length ≤ 100000) (hl : (listText [t1, t2]).length ≤ 1000000) : Rep prog w hb (.ref a) (listText [t1, t2]) := by
  have hz := sizeLine_eq
  have direct : ∀ (A : Around) (s : Shared) (Q E : Value → Shared → Prop), A.handled = none → A.guards = some [] → A.depth ≤ 800 → A.units ≤ 4100 → Grow hb s.heap →
      (∀ h' u tk, Grow s.heap h' → Q (.str (listText [t1, t2]) u) { s with heap := h', toks := tk }) → wpAny (model prog w) A (PySem.call (.builtin "list.__repr__") [.ref a]) Q E s := fun A s Q E a1 a2 a3 a4 g h =>
    wpAny_call (codeAny_call_builtin F.slot_list_repr.plain F.entry_list_repr (F.slot_list_repr.check _ _ _ _ _ _ _ _ ⟨oa, g _ _ ha, hc⟩ (F.args_list_repr_1 _)
      (two_told (base := 0) (R := callEnd Q E) r1 r2 ha hda a1 a2 a3 a4 g l1 l2 (by decide) h)))
  refine ⟨fun A s Q E a1 a2 a3 a4 g h => ?_, fun A s Q E a1 a2 a3 a4 g h => ?_, fun m hm A s Q E a1 a2 a3 a4 g h => ?_, hl⟩
  · have hTy : s.TypeIs (.ref a) "list" := ⟨oa, g _ _ ha, hc⟩
    refine Calls.call_function_entry PySem.F.kind_repr PySem.F.plain_repr PySem.F.entry_repr (PySem.F.args_repr1 _) ?_
    unfold Builtin.«repr»
    refine wpAny_bind (m := oneArg "repr" _) (wpAny_pure ?_)
    refine wpAny_bind (wpAny_cRoomFor (units_ok (Nat.succ_le_succ a4) (by decide +kernel)) ?_)
    refine wpAny_bind (wpAny_specialOf (name := PySem.Str.ofString "__repr__") hTy F.slot_list_repr.lookup ?_)
    refine wpAny_bind (m := callSpecialIfBound? (.ref a) (PySem.Str.ofString "__repr__") _) (wpAny_callSpecialIfBound?_slot (name := PySem.Str.ofString "__repr__") hTy F.slot_list_repr
      (direct _ _ _ _ a1 a2 a3 (Nat.le_trans (Nat.succ_le_succ a4) (by decide)) g fun h' u tk g' => ?_))
    exact wpAny_bind (wpAny_isInstance (T := "str") (b := true) rfl isSubtype_str_str (wpAny_pure ⟨_, rfl, h h' u tk g'⟩))
  · have hTy : s.TypeIs (.ref a) "list" := ⟨oa, g _ _ ha, hc⟩
    unfold pyReprObj
    refine wpAny_bind (wpAny_cRoomFor (units_ok a4 (by decide +kernel)) ?_)
    refine wpAny_bind (wpAny_specialOf (name := PySem.Str.ofString "__repr__") hTy F.slot_list_repr.lookup ?_)
    refine wpAny_bind (m := callSpecialIfBound? (.ref a) (PySem.Str.ofString "__repr__")) (wpAny_callSpecialIfBound?_slot (name := PySem.Str.ofString "__repr__") hTy F.slot_list_repr
      (direct _ _ _ _ a1 a2 a3 (Nat.le_trans a4 (by decide)) g fun h' u tk g' => ?_))
    exact wpAny_bind (wpAny_isInstance (T := "str") (b := true) rfl isSubtype_str_str (wpAny_pure (h h' u tk g')))
  · exact wpAny_pyReprObjUnder_twin (twin := "list.__repr__.under") ⟨oa, g _ _ ha, hc⟩ F.slot_list_repr.toG rfl (units_ok a4 (by decide +kernel))
      (call_twin_plain F.plain_list_repr_under F.entry_list_repr_under F.check_list_repr_under ⟨oa, g _ _ ha, hc⟩ F.slot_list_repr.toG (F.args_list_repr_1 _)
        (two_told (R := callEnd _ E) r1 r2 ha hda a1 a2 a3 (Nat.le_trans a4 (by decide)) g l1 l2 hm (fun h' u tk g' => ⟨⟨_, _, rfl⟩, h h' u tk g'⟩)))
end
end Mine
end
section
open PySem PySem.W PySem.Calls PyProof.Rows
set_option Elab.async false
set_option maxRecDepth 100000
set_option maxHeartbeats 4000000
namespace Mine
theorem kitAt_tup {h h' : Heap} {a : Addr} {its : Array Value} (x : IsTup h a its) (g : Grow h h') : KitAt a "tuple" h' := by
  obtain ⟨o, ho, hc, _⟩ := x
  exact ⟨o, g _ _ ho, hc⟩
theorem kitAt_list {h h' : Heap} {a : Addr} {its : Array Value} (x : h.IsList a its) (g : Grow h h') : KitAt a "list" h' := by
  obtain ⟨o, ho, hc, _⟩ := x
  exact ⟨o, g _ _ ho, hc⟩
end Mine
end
section
open PySem PySem.W PySem.Spec PySem.Calls PyProof.Rows PyProof.Rows.LCg
set_option Elab.async false
set_option maxRecDepth 100000
set_option maxHeartbeats 4000000
namespace Mine
/-- the source of a comprehension is a tuple that stood ahead of the frame -/
def SrcT (prog : Program) (w : World) (A : Around) (h₀ : Heap) (L : Addr) (m : Str → Option Value) (env : Env) (elt : Expr) (x : Str) (scope : Scope) (cl : List (Str × Addr)) (Fin : Shared → List Value → List (Addr × Obj) → Prop) (xv : Value) (s₁ : Shared) : Prop :=
  ∃ ax its news, xv = .ref ax ∧ A.handled = none ∧ Fr h₀ L s₁.heap m ∧ News h₀ L s₁.heap news ∧ h₀.IsTuple ax its ∧ its.size ≤ sizeLine ∧
    ∀ g, CompRest prog w A h₀ L m env elt x scope cl { s₁ with heap := g } (fun _ => True) (fun i v => its[i]? = some v) (Fin { s₁ with heap := g }) its.size 0 [] news
section
variable {prog : Program} {w : World} {A : Around} {E : Value → Shared → Prop} {s : Shared} {h₀ : Heap} {L : Addr} {m : Str → Option Value} {env : Env}
theorem srcT_base {elt : Expr} {x : Str} {scope : Scope} {cl : List (Str × Addr)} {Fin : Shared → List Value → List (Addr × Obj) → Prop} {ax : Addr} {its : Array Value} {news : List (Addr × Obj)} {s₁ : Shared}
    (hh : A.handled = none) (F : Fr h₀ L s₁.heap m) (N : News h₀ L s₁.heap news) (ht : IsTup h₀ ax its) (hsz : its.size ≤ sizeLine)
    (h : ∀ g, CompRest prog w A h₀ L m env elt x scope cl { s₁ with heap := g } (fun _ => True) (fun i v => its[i]? = some v) (Fin { s₁ with heap := g }) its.size 0 [] news) :
    SrcT prog w A h₀ L m env elt x scope cl Fin (.ref ax) s₁ := ⟨ax, its, news, rfl, hh, F, N, ht, hsz, h⟩
theorem ListComp_tup {elt iter : Expr} {x : Str} {px : Pos} {scope : Scope} {cl : List (Str × Addr)} {pos : Pos} {Q : Value → Shared → Prop} (F₀ : Fr h₀ L s.heap m)
    (hclos : closureFor scope env = pure cl) (hcell : ∀ y ∈ scope.names, y.2 ≠ .cell) (hkind : scope.kind = .function)
    (hnames : ∀ y ∈ scope.names, y.2 = .local → scope.names.lookup y.1 = some .local) (hx : scope.names.lookup x = some .local)
    (h : wpAny (model prog w) A (eval iter env) (SrcT prog w A h₀ L m env elt x scope cl (fun s₂ => FinE h₀ L m s₂ Q)) E s)
    (hs : ∀ x, foldedSetIterable iter env x = pure x := by intro _; rfl) :
    wpAny (model prog w) A (eval (.ListComp elt [⟨.Name x px, iter, [], 0⟩] scope pos) env) Q E s := by
  rw [eval_ListComp]
  refine wpAny_comprehension_free (use := none) rfl hs hclos hkind hnames (wpAny_mono h (fun xv s₁ h₁ => ?_) fun _ _ e => e)
  obtain ⟨ax, its, news, rfl, hh, F, N, ht, hsz, R⟩ := h₁
  have hl : s₁.heap.IsTuple ax its := by
    obtain ⟨o, e, r⟩ := ht
    exact ⟨o, F.keep _ _ e, r⟩
  have hlt : ax < s₁.heap.objs.size := by obtain ⟨_, e, _⟩ := hl; exact Heap.lt_size e
  have up : ∀ b o, s₁.heap.get? b = some o → (s₁.heap.push { cls := .type "tuple_iterator", data := .fields #[.ref ax, .int 0 0] }).get? b = some o := fun b o e => Heap.get?_push_of_some _ e
  refine wpAny_pyIter_tuple hl ?_
  refine block_U (S := fun _ => True) (Walks.tuple hh s₁.heap.objs.size ax (Nat.ne_of_lt hlt) its) hsz (fun i h st => by obtain ⟨o, e, _⟩ := st.1; exact ⟨o, e⟩) ?_ hcell hkind hx ⟨⟨_, Heap.get?_push_size _ rfl, rfl, rfl⟩, hl.push _⟩ (fun b hb => ?_)
    (F.keeps up) (N.grown up) (Nat.ne_of_lt F.ns.lt) (next_is_new F) (fun p hp => Nat.ne_of_lt (Heap.lt_size (N p hp).1)) trivial (R _) ?_
  · intro i h h' o nw st e e' k _ _
    refine ⟨?_, ?_⟩
    · obtain ⟨o', q, r⟩ := st.1
      rw [e] at q; cases q
      exact ⟨o, e', r⟩
    · obtain ⟨o', q, r⟩ := ht
      exact ⟨o', k _ _ q, r⟩
  · show b < (s₁.heap.push _).objs.size
    rw [Heap.size_push]
    rcases List.mem_cons.mp hb with rfl | hb
    · exact Nat.lt_succ_self _
    · rw [List.mem_singleton.mp hb]; exact Nat.lt_succ_of_lt hlt
  · intro D C h tk m' ys news' F' N' o1 hn hC₀ hD₀ hCL hDL hCD offC fin
    refine ⟨m', hn, fun h'' hs'' => fin D h'' tk (F'.change hs'' hCL hC₀) (fun p hp => ?_) o1⟩
    refine ⟨hs''.extBut _ _ ?_ (N' p hp).1, (N' p hp).2⟩
    rcases List.mem_cons.mp hp with rfl | hp
    · exact Ne.symm hCD
    · exact offC p hp
end
end Mine
namespace Mine
theorem jl1 (a b : Str) : (Txt.join a [b]).length = b.length := by
  unfold Txt.join
  rw [StrLaws.glued_eq_join]
  rfl
theorem jl2 (a b c : Str) : (Txt.join a [b, c]).length = b.length + a.length + c.length := by
  unfold Txt.join
  rw [StrLaws.glued_eq_join]
  show (b ++ a ++ Str.join a [c]).length = _
  rw [PySem.Str.length_append, PySem.Str.length_append]
  rfl
end Mine
end
section
open PySem PySem.W PySem.Calls PyProof.Rows
set_option Elab.async false
set_option maxRecDepth 100000
set_option maxHeartbeats 4000000
namespace Mine
/-- around, with whatever guards -/
def AN (d u : Nat) : Around := { handled := none, depth := d, frames := none, guards := none, units := u }
theorem weakenN {α : Type} {M : Model} {A : Around} {d u : Nat} {t : Sem α} {Q : α → Shared → Prop} {E : Value → Shared → Prop} {s : Shared} (h1 : A.handled = none) (h2 : A.depth ≤ d) (h3 : A.units ≤ u) (h : wpAny M (AN d u) t Q E s) : wpAny M A t Q E s :=
  fun Γ p hΓ => h Γ p ⟨hΓ.1.trans h1, Nat.le_trans hΓ.2.1 h2, (by intro _ e; cases e), (by intro g e; cases e), Nat.le_trans hΓ.2.2.2.2 h3⟩
/-- an attribute of an object reads so -/
def Gets (prog : Program) (w : World) (h : Heap) (e : Addr) (name : Str) (v : Value) : Prop := ∀ (A : Around) (s : Shared) (Q E : Value → Shared → Prop) (expr : Bool), Grow h s.heap → Q v { s with toks := s.toks + 1 } → wpAny (model prog w) A (getAttr (.ref e) name expr) Q E s
/-- str of an object -/
def StrOk (prog : Program) (w : World) (h : Heap) (e : Addr) (t : Str) : Prop := ∀ (A : Around) (s : Shared) (Q E : Value → Shared → Prop), A.handled = none → A.depth ≤ 850 → A.units ≤ 4200 → Grow h s.heap →
  (∀ h' u tk, Grow s.heap h' → Q (.str t u) { s with heap := h', toks := tk }) → wpAny (model prog w) A (call (.type "str") [.ref e]) Q E s
def clsB (K : Frag) (C f : Addr) : Bool := excGet K C && hasDictIn K C && (clsIn K C).isSome && (findIn K (.ref C) "args" == some (some (.builtin "BaseException.args"))) && (specialIn K (.builtin "BaseException.args") "__get__" == some (some (.builtin "getset_descriptor.__get__"))) && (takesIn K (.builtin "BaseException.args") == some true) && (findIn K (.ref C) "__str__" == some (some (.ref f))) && (findIn K (.ref C) "__repr__" == some (some (.ref f))) && isFn K (.ref f)
def nameB (K : Frag) (C : Addr) (name : Str) : Bool := match findIn K (.ref C) name with
  | some attr => noGet K attr
  | none => false
section
variable {prog : Program} {w : World} {A : Around} {E : Value → Shared → Prop} {s : Shared} {h₀ h h' : Heap} {L e d ta C f : Addr} {od : Obj} {m : Str → Option Value} {news : List (Addr × Obj)} {v : Value} {name t : Str} {Q : Value → Shared → Prop} {K : Frag}
theorem Gets.grow (g : Gets prog w h e name v) (k : Grow h h') : Gets prog w h' e name v := fun A s Q E x a b => g A s Q E x (k.trans a) b
theorem StrOk.grow (g : StrOk prog w h e t) (k : Grow h h') : StrOk prog w h' e t := fun A s Q E a b c d x => g A s Q E a b c (k.trans d) x
theorem gets_use {expr : Bool} (g : Gets prog w h₀ e name v) (F : Fr h₀ L s.heap m) (q : Q v { s with toks := s.toks + 1 }) : wpAny (model prog w) A (getAttr (.ref e) name expr) Q E s := g A s Q E expr F.keep q
theorem gets_field (X : K.In h) (he : h.get? e = some (excObj C (some d) ta)) (hd : h.get? d = some od) (c : clsB K C f = true) (n : nameB K C name = true) (hl : lookIn name od = some (some v)) (hv : handedIn v = true) : Gets prog w h e name v := by
  intro A s Q E x g q
  simp only [clsB, Bool.and_eq_true] at c
  unfold nameB at n
  split at n
  · rename_i attr ha
    exact exc_get (X.keeps g) ⟨g _ _ he, rfl, rfl, g _ _ hd⟩ c.1.1.1.1.1.1.1.1 (findObj_own c.1.1.1.1.1.1.1.2 ha n hl) hv q
  · cases n
theorem gets_args (X : K.In h) (he : h.get? e = some (excObj C (some d) ta)) (hd : h.get? d = some od) (c : clsB K C f = true) : Gets prog w h e "args" (.ref ta) := by
  intro A s Q E x g q
  simp only [clsB, Bool.and_eq_true, beq_iff_eq] at c
  exact exc_get_args (X.keeps g) ⟨g _ _ he, rfl, rfl, g _ _ hd⟩ c.1.1.1.1.1.1.1.1 (findObj_data c.1.1.1.1.1.1.2 c.1.1.1.1.1.2 c.1.1.1.1.2 c.1.1.1.2) q
theorem strOk_of (X : K.In h) (he : h.get? e = some (excObj C (some d) ta)) (hd : h.get? d = some od) (c : clsB K C f = true) (tl : Tells prog w h f e t) : StrOk prog w h e t := by
  intro A s Q E a1 a3 a4 g q
  simp only [clsB, Bool.and_eq_true, beq_iff_eq] at c
  exact kso_call (od := some od) (units_ok (Nat.add_le_add_right a4 2) (by decide +kernel)) (X.keeps g) ⟨g _ _ he, rfl, rfl, g _ _ hd⟩ c.1.1.2 c.2 (tl _ _ _ _ a1 (Nat.le_trans a3 (by decide)) (Nat.le_trans (Nat.add_le_add_right a4 2) (by decide)) g fun h' u tk g' => q h' u tk g')
theorem repErr_of (X : K.In h) (he : h.get? e = some (excObj C (some d) ta)) (hd : h.get? d = some od) (c : clsB K C f = true) (tl : Tells prog w h f e t) (hl : t.length ≤ 1000000) : Rep prog w h (.ref e) t := by
  simp only [clsB, Bool.and_eq_true, beq_iff_eq] at c
  exact rep_inst (od := some od) X ⟨he, rfl, rfl, hd⟩ c.1.2 c.2 tl hl
theorem str_use (c : StrOk prog w h₀ e t) (F : Fr h₀ L s.heap m) (N : News h₀ L s.heap news) (h1 : A.handled = none) (h3 : A.depth ≤ 850) (h4 : A.units ≤ 4200)
    (q : ∀ h' u tk, Fr h₀ L h' m → News h₀ L h' news → Q (.str t u) { s with heap := h', toks := tk }) : wpAny (model prog w) A (call (.type "str") [.ref e]) Q E s :=
  c A s Q E h1 h3 h4 F.keep fun h' u tk g => q h' u tk (fr_grow F g) (news_grow N g)
end
end Mine
end
section
open PySem PySem.W PySem.Calls PyProof.Rows
set_option Elab.async false
namespace Mine
theorem updF_to {d : Addr} {o : Obj} : ∀ {l : List (Addr × Obj)} {g : Obj → List (Addr × Obj)}, UpdF d o l g → ∀ o', Upd d o o' l (g o')
  | _, _, .head h, _ => .head h
  | _, _, .tail h r, o' => .tail h (updF_to r o')
theorem updF_on {d : Addr} {o : Obj} : ∀ {l : List (Addr × Obj)} {g : Obj → List (Addr × Obj)}, UpdF d o l g → ∀ o' o'', Upd d o' o'' (g o') (g o'')
  | _, _, .head h, _, _ => .head h
  | _, _, .tail h r, o', o'' => .tail h (updF_on r o' o'')
theorem updF_mem {d : Addr} {o : Obj} : ∀ {l : List (Addr × Obj)} {g : Obj → List (Addr × Obj)}, UpdF d o l g → (d, o) ∈ l ∧ ∀ o', (d, o') ∈ g o' ∧ ∀ p ∈ g o', p.1 ∈ l.map (·.1)
  | _, _, .head h => ⟨.head _, fun o' => ⟨.head _, fun p hp => by
      rcases List.mem_cons.mp hp with rfl | hp
      · exact .head _
      · exact .tail _ (List.mem_map_of_mem hp)⟩⟩
  | _, _, .tail h r => ⟨.tail _ (updF_mem r).1, fun o' => ⟨.tail _ ((updF_mem r).2 o').1, fun p hp => by
      rcases List.mem_cons.mp hp with rfl | hp
      · exact .head _
      · exact .tail _ (((updF_mem r).2 o').2 p hp)⟩⟩
theorem updF_lt {d b : Addr} {o o' : Obj} {l : List (Addr × Obj)} {g : Obj → List (Addr × Obj)} (U : UpdF d o l g) (h : ∀ p ∈ l, p.1 < b) : ∀ p ∈ g o', p.1 < b := fun p hp => by
  obtain ⟨q, hq, e⟩ := List.mem_map.mp (((updF_mem U).2 o').2 p hp)
  exact e ▸ h q hq
theorem updF_ne {d b : Addr} {o o' : Obj} {l : List (Addr × Obj)} {g : Obj → List (Addr × Obj)} (U : UpdF d o l g) (h : ∀ p ∈ l, p.1 ≠ b) : ∀ p ∈ g o', p.1 ≠ b := fun p hp => by
  obtain ⟨q, hq, e⟩ := List.mem_map.mp (((updF_mem U).2 o').2 p hp)
  exact e ▸ h q hq
end Mine
namespace Mine
def G3 (_ : Array GenState) (_ : Drawn) (_ : OsState) : Prop := True
theorem tok_gen {M : Model} {α : Type} {A : Around} {t : Sem α} {Q : α → Shared → Prop} {E : Value → Shared → Prop} {h : Heap} {g : Array GenState} {d : Drawn} {o : OsState} {tk : Nat} (_ : G3 g d o) (H : ∀ tk, wpAny M A t Q E ⟨h, g, d, tk, o⟩) : wpAny M A t Q E ⟨h, g, d, tk, o⟩ := H tk
end Mine
end
section
open PySem PySem.W PySem.Calls PyProof.Rows
set_option Elab.async false
set_option maxRecDepth 100000
set_option maxHeartbeats 4000000
namespace Mine
theorem sapp (a b c : Str) : a ++ b ++ c = a ++ (b ++ c) := by
  have e : (a ++ b ++ c).cps = (a ++ (b ++ c)).cps := by simp only [PySem.Str.cps_append, Array.append_assoc]
  exact congrArg PySem.Str.mk e
theorem tj0 (l : List Str) : Txt.join (Str.ofString "") l = Str.join (Str.ofString "") l := by
  unfold Txt.join
  rw [StrLaws.glued_eq_join]
theorem tj1 (x : Str) : Txt.join (Str.ofString "") [x] = x := by rw [tj0]; rfl
theorem tjc (x y : Str) (r : List Str) : Txt.join (Str.ofString "") (x :: y :: r) = x ++ Txt.join (Str.ofString "") (y :: r) := by
  rw [tj0, tj0]
  show x ++ Str.ofString "" ++ Str.join (Str.ofString "") (y :: r) = _
  rw [KFm.cat_t]
theorem lit_s : Str.ofString "]: " ++ Str.ofString "section " = Str.ofString "]" ++ Str.ofString ": section " := by decide +kernel
theorem lit_o : Str.ofString "]: " ++ Str.ofString "option " = Str.ofString "]" ++ Str.ofString ": option " := by decide +kernel
theorem tx60a (r : Str) : Txt.join (Str.ofString "") [Str.ofString "Section ", r, Str.ofString " already exists"] = Str.ofString "Section " ++ (r ++ Str.ofString " already exists") := by
  simp only [tjc, tj1]
theorem tx80a (o r : Str) : Txt.join (Str.ofString "") [Str.ofString "Option ", o, Str.ofString " in section ", r, Str.ofString " already exists"] = Str.ofString "Option " ++ (o ++ Str.ofString " in section " ++ (r ++ Str.ofString " already exists")) := by
  simp only [tjc, tj1, sapp]
theorem tx60b (rc r : Str) (n : Int) : Txt.join (Str.ofString "") [Str.ofString "While reading from ", rc, lineText n, Str.ofString ": section ", r, Str.ofString " already exists"] =
    Str.ofString "While reading from " ++ rc ++ Str.ofString " [line " ++ fig2 n ++ Str.ofString "]: " ++ Str.ofString "section " ++ (r ++ Str.ofString " already exists") := by
  rw [sapp _ (Str.ofString "]: "), lit_s]
  simp only [tjc, tj1, sapp, lineText]
theorem tx80b (rc o r : Str) (n : Int) : Txt.join (Str.ofString "") [Str.ofString "While reading from ", rc, lineText n, Str.ofString ": option ", o, Str.ofString " in section ", r, Str.ofString " already exists"] =
    Str.ofString "While reading from " ++ rc ++ Str.ofString " [line " ++ fig2 n ++ Str.ofString "]: " ++ Str.ofString "option " ++ (o ++ Str.ofString " in section " ++ (r ++ Str.ofString " already exists")) := by
  rw [sapp _ (Str.ofString "]: "), lit_o]
  simp only [tjc, tj1, sapp, lineText]
end Mine
end
section
open PySem PySem.W PySem.Calls PyProof.Rows
set_option Elab.async false
set_option maxRecDepth 100000
set_option maxHeartbeats 1000000
namespace Mine
def Inv05 (pre : List Int) (line : Int) (figures : Str) : Prop := 0 ≤ line ∧ figures.length ≤ pre.length ∧ line < 10 ^ pre.length ∧ (pre ≠ [] → figures = Str.ofString (toString line)) ∧ (pre = [] → line = 0)
theorem inv05_0 : Inv05 [] 0 (Str.ofString "") := ⟨by decide, by decide, by decide, fun h => absurd rfl h, fun _ => rfl⟩
theorem item_fig : ∀ d : Fin 10, Txt.item (Str.ofString "0123456789") (d.val : Int) = ⟨#[48 + d.val]⟩ := by decide +kernel
theorem dig_fig : ∀ d : Fin 10, (Nat.toDigits 10 d.val).map Char.toNat = [48 + d.val] := by decide +kernel
theorem fig_step {m d : Nat} (hm : 0 < m) (hd : d < 10) : Str.ofString (toString (Int.ofNat m)) ++ (⟨#[48 + d]⟩ : Str) = Str.ofString (toString (Int.ofNat (m * 10 + d))) := by
  rw [text_ofNat, text_ofNat, Nat.mul_comm m 10, ← Nat.toDigits_append_toDigits (by decide) hm hd, List.map_append, dig_fig ⟨d, hd⟩]
  apply congrArg PySem.Str.mk
  simp
theorem fig_one {d : Nat} (hd : d < 10) : (⟨#[48 + d]⟩ : Str) = Str.ofString (toString (Int.ofNat d)) := by
  rw [text_ofNat, dig_fig ⟨d, hd⟩]
theorem step05 {pre : List Int} {line : Int} {figures fig : Str} {n : Int} (hI : Inv05 pre line figures) (h1 : line = 0 → fig = Str.ofString "") (h2 : line ≠ 0 → fig = figures) : Inv05 (pre ++ [n]) (line * 10 + (if n < 0 then -n else n).fmod 10) (fig ++ Txt.item (Str.ofString "0123456789") ((if n < 0 then -n else n).fmod 10)) := by
  obtain ⟨i1, i2, i3, i4, i5⟩ := hI
  have d0 := Int.fmod_nonneg_of_pos (if n < 0 then -n else n) (b := 10) (by decide)
  have d1 := Int.fmod_lt_of_pos (if n < 0 then -n else n) (b := 10) (by decide)
  generalize (if n < 0 then -n else n).fmod 10 = d at *
  obtain ⟨d, rfl⟩ := Int.eq_ofNat_of_zero_le d0
  have hd : d < 10 := by omega
  rw [item_fig ⟨d, hd⟩]
  obtain ⟨m, rfl⟩ := Int.eq_ofNat_of_zero_le i1
  have hl : (⟨#[48 + d]⟩ : Str).length = 1 := rfl
  refine ⟨by omega, ?_, ?_, fun _ => ?_, fun h => by simp at h⟩
  · rw [PySem.Str.length_append, hl, List.length_append]
    by_cases hm : (m : Int) = 0
    · rw [h1 hm]
      have h0 : (Str.ofString "").length = 0 := rfl
      simp [h0]
    · rw [h2 hm]; simpa using i2
  · rw [List.length_append, List.length_singleton, Int.pow_succ]; omega
  · by_cases hm : (m : Int) = 0
    · rw [h1 hm, hm]
      have e0 : Str.ofString "" = PySem.Str.empty := rfl
      rw [e0, KFm.cat_e]
      have := fig_one hd
      simpa using this
    · have hp : pre ≠ [] := fun e => hm (i5 e)
      rw [h2 hm, i4 hp]
      have := fig_step (m := m) (by omega) hd
      simpa using this
theorem nd_pos {m : Nat} : numDigits (Int.ofNat m) = (Nat.toDigits 10 m).map Char.toNat := by
  unfold numDigits
  rw [if_neg (by simp)]
  rfl
theorem mul_sp (k : Int) (hk : k ≤ 2) : Txt.mul (Str.ofString " ") k = ⟨(List.replicate k.toNat 32).toArray⟩ := by
  by_cases h0 : k < 1
  · have : k.toNat = 0 := by omega
    rw [this]; unfold Txt.mul; rw [if_pos h0]; rfl
  · rcases (by omega : k = 1 ∨ k = 2) with rfl | rfl
    · rfl
    · rfl
theorem told05 {pre : List Int} {line : Int} {fig : Str} {n : Int} (hI : Inv05 (pre ++ [n]) line fig) : Txt.mul (Str.ofString " ") (2 - (fig.length : Int)) ++ fig = fig2 line := by
  obtain ⟨i1, i2, i3, i4, i5⟩ := hI
  have hf := i4 (by simp)
  obtain ⟨m, rfl⟩ := Int.eq_ofNat_of_zero_le i1
  have hf' : fig = ⟨((Nat.toDigits 10 m).map Char.toNat).toArray⟩ := hf.trans (text_ofNat m)
  have hl : fig.length = ((Nat.toDigits 10 m).map Char.toNat).length := by rw [hf']; simp [PySem.Str.length]
  rw [mul_sp _ (by omega), hl, hf']
  unfold fig2
  rw [show numDigits (m : Int) = _ from nd_pos]
  apply congrArg PySem.Str.mk
  have e : (2 - (((Nat.toDigits 10 m).map Char.toNat).length : Int)).toNat = 2 - ((Nat.toDigits 10 m).map Char.toNat).length := by omega
  rw [e]
  simp
theorem numDigits_len {n : Int} (h : n.natAbs < 10 ^ 41) : (numDigits n).length ≤ 42 := by
  have h1 := digits10_le (k := 41) (by decide) h
  unfold numDigits
  rw [List.length_append, List.length_map]
  split <;> simp <;> omega
theorem fig2_len {n : Int} (h : n.natAbs < 10 ^ 41) : (fig2 n).length ≤ 44 := by
  have h1 := numDigits_len h
  unfold fig2
  simp only [PySem.Str.length, List.size_toArray, List.length_append, List.length_replicate]
  omega
theorem log2_ok {n : Int} (h : n.natAbs < 10 ^ 41) : n.natAbs.log2 < 1920 := by
  by_cases h0 : n.natAbs = 0
  · rw [h0]; decide
  · exact Nat.lt_of_lt_of_le ((Nat.log2_lt h0).mpr (Nat.lt_trans h (by decide : 10 ^ 41 < 2 ^ 200))) (by decide)
theorem abs05 {pre : List Int} {line : Int} {fig : Str} {n : Int} (hp : pre.length ≤ 40) (hI : Inv05 (pre ++ [n]) line fig) : line.natAbs < 10 ^ 41 := by
  obtain ⟨i1, _, i3, _, _⟩ := hI
  have h1 : (10 : Int) ^ (pre ++ [n]).length ≤ 10 ^ 41 := by
    have : (10 : Nat) ^ (pre ++ [n]).length ≤ 10 ^ 41 := Nat.pow_le_pow_right (by decide) (by simp; omega)
    exact_mod_cast this
  have h2 := Int.lt_of_lt_of_le i3 h1
  have h3 : ((line.natAbs : Nat) : Int) < ((10 ^ 41 : Nat) : Int) := by
    rw [Int.natAbs_of_nonneg i1]; exact_mod_cast h2
  exact_mod_cast h3
theorem neg05 {pre : List Int} {line : Int} {fig : Str} {n : Int} (hI : Inv05 (pre ++ [n]) line fig) (h : 0 < line) : Str.ofString "-" ++ fig = fig2 (-line) := by
  obtain ⟨i1, i2, i3, i4, i5⟩ := hI
  have hf := i4 (by simp)
  obtain ⟨m, rfl⟩ := Int.eq_ofNat_of_zero_le i1
  have hf' : fig = ⟨((Nat.toDigits 10 m).map Char.toNat).toArray⟩ := hf.trans (text_ofNat m)
  have h1 := tDigits_len_ge 10 m
  have e : numDigits (-(m : Int)) = 45 :: (Nat.toDigits 10 m).map Char.toNat := by
    unfold numDigits
    rw [if_pos (by omega), Int.natAbs_neg, Int.natAbs_natCast]; rfl
  unfold fig2
  rw [e, hf', show 2 - (45 :: (Nat.toDigits 10 m).map Char.toNat).length = 0 by simp; omega]
  apply congrArg PySem.Str.mk
  simp
  rfl
theorem zero05 : Str.ofString " 0" = fig2 0 := by decide +kernel
end Mine
end
section
open PySem PySem.W PySem.Calls PyProof.Rows PySem.Builtin PySem.Builtin.Str
set_option Elab.async false
set_option maxRecDepth 100000
set_option maxHeartbeats 4000000
set_option linter.unusedVariables false
namespace Mine
/-- a sign that the pieces of law 08 bear -/
def sgn (c : Nat) : Bool := c == 10 || (32 ≤ c && c < 127)
def esc (q c : Nat) : List Nat := if c = q ∨ c = 92 then [92, c] else if c = 10 then [92, 110] else [c]
theorem esc_all : ∀ c : Fin 127, sgn c.val = true → reprChar 39 c.val = esc 39 c.val ∧ reprChar 34 c.val = esc 34 c.val := by decide +kernel
theorem sgn_lt {c : Nat} (h : sgn c = true) : c < 127 := by
  simp only [sgn, Bool.or_eq_true, beq_iff_eq, Bool.and_eq_true, decide_eq_true_eq] at h
  omega
theorem esc_ok {q c : Nat} (hq : q = 39 ∨ q = 34) (h : sgn c = true) : reprChar q c = esc q c := by
  have := esc_all ⟨c, sgn_lt h⟩ h
  rcases hq with rfl | rfl
  · exact this.1
  · exact this.2
theorem quote_is (x : PySem.Str) : reprQuote x = 39 ∨ reprQuote x = 34 := by
  unfold reprQuote
  split
  · exact .inr rfl
  · exact .inl rfl
theorem foldl_flat (f : Nat → List Nat) : ∀ (l : List Nat) (acc : Array Nat), l.foldl (fun out c => out ++ (f c).toArray) acc = acc ++ (l.flatMap f).toArray
  | [], acc => by simp
  | c :: r, acc => by
    rw [List.foldl_cons, foldl_flat f r]
    simp [List.flatMap_cons]
theorem flat_congr {f g : Nat → List Nat} : ∀ {l : List Nat}, (∀ c ∈ l, f c = g c) → l.flatMap f = l.flatMap g
  | [], _ => rfl
  | c :: r, h => by
    rw [List.flatMap_cons, List.flatMap_cons, h c (.head _), flat_congr fun d hd => h d (.tail _ hd)]
def Sg (x : PySem.Str) : Prop := ∀ c ∈ x.cps.toList, sgn c = true
theorem repr_cps {x : PySem.Str} (h : Sg x) : (reprText x).cps.toList = reprQuote x :: (x.cps.toList.flatMap (esc (reprQuote x)) ++ [reprQuote x]) := by
  have e : x.cps.toList.flatMap (reprChar (reprQuote x)) = x.cps.toList.flatMap (esc (reprQuote x)) := by
    exact flat_congr fun c hc => esc_ok (quote_is x) (h c hc)
  unfold reprText
  rw [← Array.foldl_toList, foldl_flat, e]
  simp
theorem esc_len (q c : Nat) : 1 ≤ (esc q c).length ∧ (esc q c).length ≤ 2 := by
  unfold esc
  repeat' split
  all_goals simp
theorem flat_len (q : Nat) : ∀ l : List Nat, (l.flatMap (esc q)).length ≤ 2 * l.length
  | [] => by simp
  | c :: r => by
    have := flat_len q r
    have := (esc_len q c).2
    rw [List.flatMap_cons, List.length_append, List.length_cons]
    omega
theorem repr_len {x : PySem.Str} (h : Sg x) : (reprText x).length ≤ 2 * x.length + 2 := by
  have e : (reprText x).length = (reprText x).cps.toList.length := by simp [PySem.Str.length]
  have := flat_len (reprQuote x) x.cps.toList
  have e2 : x.cps.toList.length = x.length := by simp [PySem.Str.length]
  rw [e, repr_cps h, List.length_cons, List.length_append, List.length_singleton]
  omega
end Mine
end
section
open PySem PySem.W PySem.Calls PyProof.Rows PySem.Builtin PySem.Builtin.Str
set_option Elab.async false
set_option maxRecDepth 100000
set_option maxHeartbeats 4000000
set_option linter.unusedVariables false
namespace Mine
/-- the sign of x at i is y -/
def ItemAt (x : PySem.Str) (i : Int) (y : PySem.Str) : Prop := 0 ≤ i ∧ i < (x.length : Int) ∧ x.length ≤ 100000 ∧ Txt.item x i = y
/-- the signs of x from i to j are y -/
def SliceAt (x : PySem.Str) (i j : Int) (y : PySem.Str) : Prop := x.length ≤ 100000 ∧ Txt.slice x (some i) (some j) = y
section
variable {prog : Program} {w : World} {A : Around} {E : Value → Shared → Prop} {s : Shared} {h₀ : Heap} {L : Addr} {m : PySem.Str → Option Value} {news : List (Addr × Obj)} {Q : Value → Shared → Prop} {value slice : Expr} {x y : PySem.Str} {t u ui uj : Tok} {i j : Int}
theorem item_is (hy : ItemAt x i y) (h : Q (.str y s.toks) { s with toks := s.toks + 1 })
    (hs : subscripted slice false (.str x t) (.int i u) = operate [.str x t, .int i u] (getItem (.str x t) (.int i u)) := by with_unfolding_all rfl)
    (ht : ∀ r, letTemporaryGo value (.str x t) r = pure () := by intro _; with_unfolding_all rfl) :
    wpAny (model prog w) A (subscriptTail value slice (.str x t) (.int i u)) Q E s := by
  obtain ⟨h0, h1, h2, rfl⟩ := hy
  exact item_str (fitsSsize_of (N := 9223372036854775808) (by omega) (by omega) (Int.le_refl _)) (by omega) h1 (fun _ => h) hs ht
theorem slice_is (hy : SliceAt x i j y) (hF : Fr h₀ L s.heap m) (hN : News h₀ L s.heap news) (h : ∀ h' t' k, Fr h₀ L h' m → News h₀ L h' news → Q (.str y t') { s with heap := h', toks := k })
    (hs : subscripted slice false (.str x t) (.ref s.heap.objs.size) = operate [.ref s.heap.objs.size, .str x t] (getItem (.str x t) (.ref s.heap.objs.size)) := by with_unfolding_all rfl)
    (ht : ∀ r, letTemporaryGo value (.str x t) r = pure () := by intro _; with_unfolding_all rfl) :
    wpAny (model prog w) A (subscriptTail value slice (.str x t) (.ref s.heap.objs.size)) Q E { s with heap := s.heap.push { cls := .type "slice", data := .fields #[.int i ui, .int j uj, .none] } } := by
  obtain ⟨h2, rfl⟩ := hy
  exact slice_strN_ss hF hN h hs ht (by rw [sizeLine_eq]; omega)
end
theorem slice_mid {x : PySem.Str} {a b c : List Nat} {i j : Int} (h : x.cps.toList = a ++ (b ++ c)) (hi : i = a.length) (hj : j = a.length + b.length) (hl : x.length ≤ 100000) : SliceAt x i j ⟨b.toArray⟩ := by
  refine ⟨hl, ?_⟩
  have hlen : (x.cps.toList.length : Int) = a.length + (b.length + c.length) := by rw [h]; simp
  have := eq_of_beq (slice_closes (x := x) (i := i) (j := j) ⟨by omega, by omega, by omega⟩)
  rw [this, h]
  have e1 : i.toNat = a.length := by omega
  have e2 : (j - i).toNat = b.length := by omega
  rw [e1, e2, List.drop_left, List.take_left]
theorem item_mid {x : PySem.Str} {a c : List Nat} {b : Nat} {i : Int} (h : x.cps.toList = a ++ b :: c) (hi : i = a.length) (hl : x.length ≤ 100000) : ItemAt x i ⟨#[b]⟩ := by
  have hlen : x.length = a.length + (c.length + 1) := by
    have : x.cps.toList.length = x.length := by simp [PySem.Str.length]
    rw [← this, h]; simp
  refine ⟨by omega, by omega, hl, ?_⟩
  unfold Txt.item Txt.charAt
  have e0 : seqIndex? i x.length = some a.length := by
    unfold seqIndex?
    subst hi
    simp
    omega
  rw [e0]
  have e1 : x.cps[a.length]? = some b := by
    have : x.cps.toList[a.length]? = some b := by rw [h]; simp
    simpa using this
  simp [e1]
end Mine
end
section
open PySem PySem.W PySem.Calls PyProof.Rows
set_option Elab.async false
set_option maxRecDepth 100000
namespace Mine
section
variable {prog : Program} {w : World} {A : Around} {E : Value → Shared → Prop} {s : Shared} {h₀ : Heap} {L : Addr} {m : Str → Option Value} {news : List (Addr × Obj)} {Q : Value → Shared → Prop} {f : Value} {vs : List Value} {d u : Nat}
/-- a contract that gives one new object back, used from a frame -/
theorem one_use {ι : Type} (mk : ι → Obj) (c : ∀ Q E, (∀ h' tk a i, Grow s.heap h' → h'.get? a = some (mk i) → s.heap.get? a = none → Q (.ref a) { s with heap := h', toks := tk }) → wpAny (model prog w) (AD d u) (call f vs) Q E s)
    (F : Fr h₀ L s.heap m) (N : News h₀ L s.heap news) (h1 : A.handled = none) (h2 : A.guards = some []) (h3 : A.depth ≤ d) (h4 : A.units ≤ u)
    (h : ∀ h' tk a i, Fr h₀ L h' m → News h₀ L h' ((a, mk i) :: news) → AllNe a news → Q (.ref a) { s with heap := h', toks := tk }) : wpAny (model prog w) A (call f vs) Q E s := by
  refine weaken h1 h2 h3 h4 (c Q E fun h' tk a i g ha hn => ?_)
  refine h h' tk a i (fr_grow F g) ?_ (allNe_of fun p hp z => ?_)
  · intro q hq
    rcases List.mem_cons.mp hq with rfl | hq
    · refine ⟨ha, fun z => ?_, ?_⟩
      · obtain ⟨o, _, _, ho, _⟩ := F.ns
        dsimp only at z
        rw [z, ho] at hn; cases hn
      · cases q : h₀.get? a with
        | none => rfl
        | some o => rw [F.keep _ _ q] at hn; cases hn
    · exact news_grow N g q hq
  · have := (N p hp).1
    rw [z, hn] at this; cases this
/-- a contract that gives a whole number back -/
theorem int_use {n : Int} (c : ∀ Q E, (∀ h' tk t, Grow s.heap h' → Q (.int n t) { s with heap := h', toks := tk }) → wpAny (model prog w) (AD d u) (call f vs) Q E s)
    (F : Fr h₀ L s.heap m) (N : News h₀ L s.heap news) (h1 : A.handled = none) (h2 : A.guards = some []) (h3 : A.depth ≤ d) (h4 : A.units ≤ u)
    (h : ∀ h' tk t, Fr h₀ L h' m → News h₀ L h' news → Q (.int n t) { s with heap := h', toks := tk }) : wpAny (model prog w) A (call f vs) Q E s :=
  weaken h1 h2 h3 h4 (c Q E fun h' tk t g => h h' tk t (fr_grow F g) (news_grow N g))
end
/-- what _law_name reads -/
structure NameAt (x : Str) (i : Int) (y : Str) (e : Int) : Prop where
  len : x.length ≤ 1000
  lo : 0 ≤ i
  hi : i ≤ 1000
  mark : Txt.slice x (some i) (some (i + 1)) = Str.ofString "'"
  find : Txt.find3 x (Str.ofString "'") (i + 1) = e
  elo : 0 ≤ e
  ehi : e ≤ 1000
  is : Txt.slice x (some (i + 1)) (some e) = y
def digs : Str := Str.ofString "0123456789"
/-- what _law_line reads -/
structure LineAt (f : Str) (low high k : Int) : Prop where
  len : f.length = 2
  flo : Txt.find digs (Txt.slice f (some 1) none) = low
  llo : 0 ≤ low
  lhi : low ≤ 9
  is : (Txt.item f 0 = Str.ofString " " ∧ k = low) ∨ (Txt.item f 0 ≠ Str.ofString " " ∧ Txt.find digs (Txt.item f 0) = high ∧ 1 ≤ high ∧ high ≤ 9 ∧ k = high * 10 + low)
end Mine
namespace Mine
theorem if_known_t {b : Bool} {P Q : Prop} (h : b = true) (p : P) : if b = true then P else Q := by rw [if_pos h]; exact p
theorem if_known_f {b : Bool} {P Q : Prop} (h : b = false) (p : Q) : if b = true then P else Q := by rw [if_neg (by rw [h]; decide)]; exact p
end Mine
namespace Mine
/-- the rest of x from i on -/
structure CutAt (x : Str) (i : Int) (y : Str) : Prop where
  len : x.length ≤ 1000
  is : Txt.slice x (some i) none = y
section
variable {prog : Program} {w : World} {A : Around} {E : Value → Shared → Prop} {s : Shared} {h₀ : Heap} {L : Addr} {m : Str → Option Value} {news : List (Addr × Obj)} {Q : Value → Shared → Prop} {value slice : Expr} {x y : Str} {t ui : Tok} {i : Int}
theorem cut_is (hy : CutAt x i y) (hF : Fr h₀ L s.heap m) (hN : News h₀ L s.heap news) (h : ∀ h' t' k, Fr h₀ L h' m → News h₀ L h' news → Q (.str y t') { s with heap := h', toks := k })
    (hs : subscripted slice false (.str x t) (.ref s.heap.objs.size) = operate [.ref s.heap.objs.size, .str x t] (getItem (.str x t) (.ref s.heap.objs.size)) := by with_unfolding_all rfl)
    (ht : ∀ r, letTemporaryGo value (.str x t) r = pure () := by intro _; with_unfolding_all rfl) :
    wpAny (model prog w) A (subscriptTail value slice (.str x t) (.ref s.heap.objs.size)) Q E { s with heap := s.heap.push { cls := .type "slice", data := .fields #[.int i ui, .none, .none] } } := by
  obtain ⟨h2, rfl⟩ := hy
  exact slice_strN_sn hF hN h hs ht (by rw [sizeLine_eq]; omega)
end
end Mine
namespace Mine
section
variable {prog : Program} {w : World} {A : Around} {E : Value → Shared → Prop} {s : Shared} {h₀ : Heap} {L : Addr} {news : List (Addr × Obj)} {Q : Value → Shared → Prop} {value slice : Expr}
/-- an item of a list of the ledger, at a written place -/
theorem item_lit {l : Addr} {vs : List Value} {n : Nat} {k : Int} {u : Tok} {v : Value} (N : News h₀ L s.heap news) (hm : (l, listOf vs.toArray n) ∈ news) (h0 : 0 ≤ k) (hhi : k < 2 ^ 63) (hx : vs[k.toNat]? = some v) (h : Q v s)
    (hs : subscripted slice false (.ref l) (.int k u) = operate [.ref l, .int k u] (getItem (.ref l) (.int k u)) := by with_unfolding_all rfl) :
    wpAny (model prog w) A (subscriptTail value slice (.ref l) (.int k u)) Q E s :=
  tail_any (News.isList N hm).typeIs slot_list_getitem.lookup (wpAny_getItem_list (News.isList N hm) h0 hhi (by simpa using hx) h) hs
end
end Mine
namespace Mine
theorem isl_grow {h h' : Heap} {l : Addr} {xs : Array Value} (H : h.IsList l xs) (g : Grow h h') : h'.IsList l xs := by
  obtain ⟨o, ho, r⟩ := H
  exact ⟨o, g _ _ ho, r⟩
end Mine
namespace Mine
theorem bne_t {a b : Str} (h : (a != b) = true) : a ≠ b := by simpa using h
theorem bne_f {a b : Str} (h : (a != b) = false) : a = b := by simpa using h
end Mine
end
section
open PySem PySem.W PySem.Calls PyProof.Rows PySem.SeqAt
open AutoSeq1 (wpAny_loadPart')
open MeetsSeq MeetsSeq2 MeetsSeq3 SeqRoads2
set_option Elab.async false
set_option maxRecDepth 100000
set_option maxHeartbeats 4000000
namespace Mine
def GtAt (A : Around) (s : Shared) (y x : Value) (b : Bool) : Prop :=
  ∀ (prog : Program) (w : World) (E : Value → Shared → Prop) (Q : Value → Shared → Prop), Q (.bool b) s → wpAny (model prog w) A (richCompare .Gt y x) Q E s
def gtF (e c : Nat → Bool) : Nat → Nat → Bool
  | 0, _ => false
  | k + 1, i => if e i then gtF e c k (i + 1) else c i
theorem gt_loopAt (l b : Addr) (items items2 : Array Value) (n n2 : Nat) (dd dd2 : Option Addr) (sl sl2 : Array (Option Value)) (hsz : items.size = items2.size) (e c : Nat → Bool) (k : Nat) :
    ∀ i : Nat, items.size - i = k → Meets (Builtin.«list.__eq__.loop» ⟨[.ref l, .ref b, rawInt i, rawInt 4], []⟩)
      (fun A R s => s.heap.get? l = some { cls := .type "list", dict := dd, data := .seq items n, slots := sl } ∧ s.heap.get? b = some { cls := .type "list", dict := dd2, data := .seq items2 n2, slots := sl2 } ∧
        (∀ j (h1 : j < items.size) (h2 : j < items2.size), EqAt A.in1 s items[j] items2[j] (e j)) ∧ (∀ j (h1 : j < items.size) (h2 : j < items2.size), e j = false → GtAt A.in1 s items[j] items2[j] (c j)) ∧
        R (.ok (.ret (.bool (gtF e c k i)))) s) := by
  induction k with
  | zero =>
    intro i hk prog w A R s h
    obtain ⟨hp, g, d, tk, os⟩ := s; obtain ⟨hl, hb, he, hg, h⟩ := h
    wp_walk using wpAny_loadPart' hl, wpAny_loadPart' hb
    have hi1 : items[((i : Nat) : Int).toNat]? = none := by simp; omega
    have hi2 : items2[((i : Nat) : Int).toNat]? = none := by simp; omega
    rw [hi1, hi2]
    wp_walk using wpAny_loadPart' hl, wpAny_loadPart' hb
    show R (.ok (.ret (.bool (decide (items.size > items2.size))))) _
    rw [hsz]
    simpa [gtF] using h
  | succ k ih =>
    intro i hk prog w A R s h
    obtain ⟨hp, g, d, tk, os⟩ := s; obtain ⟨hl, hb, he, hg, h⟩ := h
    wp_walk using wpAny_loadPart' hl, wpAny_loadPart' hb
    have hlt : i < items.size := by omega
    have hlt2 : i < items2.size := by omega
    have hi1 : items[((i : Nat) : Int).toNat]? = some items[i] := by simp [hlt]
    have hi2 : items2[((i : Nat) : Int).toNat]? = some items2[i] := by simp [hlt2]
    have hc : ((i : Int) + 1) = ((i + 1 : Nat) : Int) := by push_cast; rfl
    rw [hi1, hi2]
    refine wpAny_bind (he i hlt hlt2 prog w _ _ ?_)
    cases hb' : e i with
    | true =>
      wp_walk
      rw [hc]
      exact ⟨plainId_quiet plain_eq_loop _, codeAny_builtin entry_eq_loop (by
        rw [Around.under_plainId plain_eq_loop _]
        exact ih (i + 1) (by omega) prog w A R _ ⟨hl, hb, he, hg, by simpa [gtF, hb'] using h⟩)⟩
    | false =>
      wp_walk using wpAny_loadPart' hl, wpAny_loadPart' hb
      rw [hi1, hi2]
      refine wpAny_bind (hg i hlt hlt2 hb' prog w _ _ ?_)
      wp_walk
      simpa [gtF, hb'] using h
theorem list_gtAt (l b : Addr) (items items2 : Array Value) (n n2 : Nat) (dd dd2 : Option Addr) (sl sl2 : Array (Option Value)) (hsz : items.size = items2.size) (e c : Nat → Bool) :
    Meets (Builtin.«list.__gt__» ⟨[.ref l, .ref b], []⟩)
      (fun A R s => s.heap.get? l = some { cls := .type "list", dict := dd, data := .seq items n, slots := sl } ∧ s.heap.get? b = some { cls := .type "list", dict := dd2, data := .seq items2 n2, slots := sl2 } ∧
        (∀ j (h1 : j < items.size) (h2 : j < items2.size), EqAt A.in1 s items[j] items2[j] (e j)) ∧ (∀ j (h1 : j < items.size) (h2 : j < items2.size), e j = false → GtAt A.in1 s items[j] items2[j] (c j)) ∧
        R (.ok (.ret (.bool (gtF e c items.size 0)))) s) := by
  intro prog w A R s h
  obtain ⟨hp, g, d, tk, os⟩ := s; obtain ⟨hl, hb, he, hg, h⟩ := h
  have f3 := AutoSeq1.sub_list_list
  wp_walk using wpAny_loadPart' hl, wpAny_loadPart' hb
  exact ⟨plainId_quiet plain_eq_loop _, codeAny_builtin entry_eq_loop (by
    rw [Around.under_plainId plain_eq_loop _]
    exact gt_loopAt l b items items2 n n2 dd dd2 sl sl2 hsz e c _ 0 rfl prog w A R _ ⟨hl, hb, he, hg, by simpa using h⟩)⟩
theorem gt_lists {A : Around} {s : Shared} {l b : Addr} {items items2 : Array Value} {e c : Nat → Bool} (hl : s.heap.IsList l items) (hb : s.heap.IsList b items2) (hsz : items.size = items2.size) (hu : A.units < cLine)
    (he : ∀ j (h1 : j < items.size) (h2 : j < items2.size), EqAt A.in1 s items[j] items2[j] (e j)) (hg : ∀ j (h1 : j < items.size) (h2 : j < items2.size), e j = false → GtAt A.in1 s items[j] items2[j] (c j)) : GtAt A s (.ref l) (.ref b) (gtF e c items.size 0) := fun prog w E Q h => by
  obtain ⟨⟨cls, dd, data, sl⟩, ho, hc, n, hd⟩ := id hl
  obtain ⟨⟨cls2, dd2, data2, sl2⟩, ho2, hc2, n2, hd2⟩ := id hb
  simp only at hc hd hc2 hd2
  subst hc hd hc2 hd2
  exact richCompare_meets_room (op := .Gt) ⟨_, ho, rfl⟩ ⟨_, ho2, rfl⟩ F.slot_list_gt F.entry_list_gt (F.args_list_gt_2 _ _) (list_gtAt l b items items2 n n2 dd dd2 sl sl2 hsz e c)
    ⟨ho, ho2, he, hg, show Value.bool (gtF e c items.size 0) ≠ Value.notImplemented ∧ Q (.bool (gtF e c items.size 0)) s from ⟨(fun x => nomatch x), h⟩⟩ hu
end Mine
end
section
open PySem PySem.W PySem.Calls PyProof.Rows PySem.SeqAt
set_option Elab.async false
set_option maxRecDepth 100000
set_option maxHeartbeats 4000000
namespace Mine
/-- what a row tells -/
structure RowD where
  o : Str
  sec : Str
  src : Option Str
  line : Option Int
structure KeyD where
  k1 : Int
  s1 : Str
  k2 : Int
  k3 : Int
  s2 : Str
  s3 : Str
def kindD (o : Str) : Int := if o = Str.ofString "" then 1 else 0
def keyD (r : RowD) : KeyD := match r.src with
  | none => ⟨kindD r.o, Str.ofString "", 0, 0, r.o, r.sec⟩
  | some x => ⟨2, x, r.line.getD 100, kindD r.o, r.o, r.sec⟩
def keyL (k : KeyD) (t : Nat → Tok) : List Value := [.int k.k1 (t 0), .str k.s1 (t 1), .int k.k2 (t 2), .int k.k3 (t 3), .str k.s2 (t 4), .str k.s3 (t 5)]
def keyO (k : KeyD) (t : Nat → Tok) : Obj := listOf (keyL k t).toArray 0
def oVal : Option Str → Tok → Value
  | none, _ => .none
  | some x, t => .str x t
def iVal : Option Int → Tok → Value
  | none, _ => .none
  | some x, t => .int x t
def rowL (r : RowD) (t : Nat → Tok) : List Value := [.str r.o (t 0), .str r.sec (t 1), oVal r.src (t 2), iVal r.line (t 3)]
def RowAt (h : Heap) (a : Addr) (r : RowD) : Prop := ∃ t, h.IsList a (rowL r t).toArray
theorem RowAt.grow {h h' : Heap} {a : Addr} {r : RowD} (H : RowAt h a r) (g : Grow h h') : RowAt h' a r := by
  obtain ⟨t, ht⟩ := H
  exact ⟨t, isl_grow ht g⟩
def eL (a b : KeyD) : Nat → Bool
  | 0 => a.k1 == b.k1
  | 1 => a.s1 == b.s1
  | 2 => a.k2 == b.k2
  | 3 => a.k3 == b.k3
  | 4 => a.s2 == b.s2
  | _ => a.s3 == b.s3
def sGt (a b : Str) : Bool := decide (b.cps.toList < a.cps.toList)
def cL (a b : KeyD) : Nat → Bool
  | 0 => decide (b.k1 < a.k1)
  | 1 => sGt a.s1 b.s1
  | 2 => decide (b.k2 < a.k2)
  | 3 => decide (b.k3 < a.k3)
  | 4 => sGt a.s2 b.s2
  | _ => sGt a.s3 b.s3
def keyGt (a b : KeyD) : Bool := gtF (eL a b) (cL a b) 6 0
section
variable {prog : Program} {w : World} {A : Around} {E : Value → Shared → Prop} {s : Shared} {h₀ : Heap} {L : Addr} {news : List (Addr × Obj)} {Q : Value → Shared → Prop}
theorem GtAt.int_int (a : Int) (t : Tok) (b : Int) (u : Tok) : GtAt A s (.int a t) (.int b u) (decide (b < a)) := fun prog w E Q h => PyProof.Rows.gt_int h
theorem GtAt.str_str (a : Str) (t : Tok) (b : Str) (u : Tok) : GtAt A s (.str a t) (.str b u) (sGt a b) := fun prog w E Q h => P.gt_str h
theorem key_gt {a b : Addr} {x y : KeyD} {t u : Nat → Tok} (N : News h₀ L s.heap news) (ha : (a, keyO x t) ∈ news) (hb : (b, keyO y u) ∈ news) (hu : A.units < cLine) (q : Q (.bool (keyGt x y)) s) : wpAny (model prog w) A (compareOp .Gt (.ref a) (.ref b)) Q E s := by
  refine cmp_ofGt (gt_lists (e := eL x y) (c := cL x y) (News.isList N ha) (News.isList N hb) rfl hu ?_ ?_ prog w E Q q)
  · intro j h1 h2
    have h1 : j < 6 := h1
    rcases j with _ | _ | _ | _ | _ | _ | j
    · exact EqAt.int_int _ _ _ _
    · exact EqAt.str_str _ _ _ _
    · exact EqAt.int_int _ _ _ _
    · exact EqAt.int_int _ _ _ _
    · exact EqAt.str_str _ _ _ _
    · exact EqAt.str_str _ _ _ _
    · omega
  · intro j h1 h2 _
    have h1 : j < 6 := h1
    rcases j with _ | _ | _ | _ | _ | _ | j
    · exact GtAt.int_int _ _ _ _
    · exact GtAt.str_str _ _ _ _
    · exact GtAt.int_int _ _ _ _
    · exact GtAt.int_int _ _ _ _
    · exact GtAt.str_str _ _ _ _
    · exact GtAt.str_str _ _ _ _
    · omega
end
end Mine
end
section
open PySem PySem.W PySem.Calls PyProof.Rows
set_option Elab.async false
namespace Mine
/-- the row's list lies in the ledger -/
def RowIn (news : List (Addr × Obj)) (v : Value) (d : RowD) : Prop := ∃ a t n, v = .ref a ∧ (a, listOf (rowL d t).toArray n) ∈ news
inductive RowsIn (news : List (Addr × Obj)) : List Value → List RowD → Prop
  | nil : RowsIn news [] []
  | cons {v : Value} {vs : List Value} {d : RowD} {ds : List RowD} : RowIn news v d → RowsIn news vs ds → RowsIn news (v :: vs) (d :: ds)
theorem RowsIn.length {news : List (Addr × Obj)} {vs : List Value} {ds : List RowD} (h : RowsIn news vs ds) : vs.length = ds.length := by
  induction h with
  | nil => rfl
  | cons _ _ ih => simp [ih]
theorem RowsIn.get {news : List (Addr × Obj)} {vs : List Value} {ds : List RowD} (h : RowsIn news vs ds) {i : Nat} {v : Value} (hv : vs[i]? = some v) : ∃ d, ds[i]? = some d ∧ RowIn news v d := by
  induction h generalizing i with
  | nil => cases hv
  | cons h _ ih =>
    cases i with
    | zero => cases hv; exact ⟨_, rfl, h⟩
    | succ i => exact ih hv
theorem RowsIn.append {news : List (Addr × Obj)} {vs ws : List Value} {ds es : List RowD} (h : RowsIn news vs ds) (k : RowsIn news ws es) : RowsIn news (vs ++ ws) (ds ++ es) := by
  induction h with
  | nil => exact k
  | cons h _ ih => exact .cons h ih
theorem RowsIn.take {news : List (Addr × Obj)} {vs : List Value} {ds : List RowD} (h : RowsIn news vs ds) (i : Nat) : RowsIn news (vs.take i) (ds.take i) := by
  induction h generalizing i with
  | nil => simp; exact .nil
  | cons h _ ih =>
    cases i with
    | zero => exact .nil
    | succ i => exact .cons h (ih i)
theorem RowsIn.drop {news : List (Addr × Obj)} {vs : List Value} {ds : List RowD} (h : RowsIn news vs ds) (i : Nat) : RowsIn news (vs.drop i) (ds.drop i) := by
  induction h generalizing i with
  | nil => simp; exact .nil
  | cons h r ih =>
    cases i with
    | zero => exact .cons h r
    | succ i => exact ih i
/-- where a row is put in: from the end on, past all that are greater -/
def posD (xs : List RowD) (r : RowD) : Nat → Nat
  | 0 => 0
  | n + 1 => match xs[n]? with
    | some x => if keyGt (keyD x) (keyD r) then posD xs r n else n + 1
    | none => n + 1
def insD (xs : List RowD) (r : RowD) : List RowD := xs.take (posD xs r xs.length) ++ r :: xs.drop (posD xs r xs.length)
def sortD (ds : List RowD) : List RowD := ds.foldl insD []
theorem posD_le (xs : List RowD) (r : RowD) : ∀ n, posD xs r n ≤ n
  | 0 => Nat.le_refl _
  | n + 1 => by
    unfold posD
    split
    · split
      · exact Nat.le_succ_of_le (posD_le xs r n)
      · exact Nat.le_refl _
    · exact Nat.le_refl _
theorem sortD_snoc (ds : List RowD) (d : RowD) : sortD (ds ++ [d]) = insD (sortD ds) d := by simp [sortD]
theorem RowsIn.ins {news : List (Addr × Obj)} {vs : List Value} {ds : List RowD} {v : Value} {d : RowD} (h : RowsIn news vs ds) (hv : RowIn news v d) : RowsIn news (vs.take (posD ds d ds.length) ++ v :: vs.drop (posD ds d ds.length)) (insD ds d) :=
  (h.take _).append (.cons hv (h.drop _))
end Mine
namespace Mine
def sRow : Str := Str.ofString "row"
def sAt : Str := Str.ofString "at"
/-- between the turns of _law_order -/
def J04 (oa L : Addr) (oL : Obj) (news : List (Addr × Obj)) (ds : List RowD) (m0 : Str → Option Value) (i : Nat) (m₁ : Str → Option Value) (nx : List (Addr × Obj)) : Prop :=
  ∃ us on, nx = (oa, listOf us.toArray on) :: (L, oL) :: news ∧ RowsIn news us (sortD (ds.take i)) ∧ ∀ z, z ≠ Str.ofString "row" → z ≠ Str.ofString "at" → m₁ z = m0 z
theorem map04 {m0 m₁ : Str → Option Value} {v : Option Value} (hm : ∀ z, z ≠ Str.ofString "row" → z ≠ Str.ofString "at" → m₁ z = m0 z) :
    (fun y => if y = Str.ofString "row" then v else m₁ y) = fun y => if y = Str.ofString "row" then v else if y = Str.ofString "at" then m₁ y else m0 y := by
  funext y
  by_cases h1 : y = Str.ofString "row"
  · rw [if_pos h1, if_pos h1]
  · rw [if_neg h1, if_neg h1]
    by_cases h2 : y = Str.ofString "at"
    · rw [if_pos h2]
    · rw [if_neg h2, hm y h1 h2]
theorem map04b {m0 m₁ : Str → Option Value} (hm : ∀ z, z ≠ Str.ofString "row" → z ≠ Str.ofString "at" → m₁ z = m0 z) :
    m₁ = fun y => if y = Str.ofString "row" then m₁ y else if y = Str.ofString "at" then m₁ y else m0 y := by
  funext y
  by_cases h1 : y = Str.ofString "row"
  · rw [if_pos h1]
  · rw [if_neg h1]
    by_cases h2 : y = Str.ofString "at"
    · rw [if_pos h2]
    · rw [if_neg h2, hm y h1 h2]
theorem map_twice {x : Str} {v v' : Option Value} {g : Str → Option Value} : (fun y => if y = x then v else if y = x then v' else g y) = fun y => if y = x then v else g y := by
  funext y
  by_cases h : y = x
  · rw [if_pos h, if_pos h]
  · rw [if_neg h, if_neg h, if_neg h]
/-- between the turns of the inner loop -/
def W04 (xs : List RowD) (d : RowD) (nx0 : List (Addr × Obj)) (g : Str → Option Value) (k : Nat) (m₂ : Str → Option Value) (nx : List (Addr × Obj)) : Prop :=
  k ≤ xs.length ∧ posD xs d k = posD xs d xs.length ∧ (∀ p ∈ nx0, p ∈ nx) ∧ nx = nx0 ∧ ∃ t, m₂ = fun y => if y = Str.ofString "at" then some (.int (k : Int) t) else g y
end Mine
end
section
open PySem PySem.W PySem.Calls PyProof.Rows
set_option Elab.async false
set_option maxRecDepth 100000
set_option maxHeartbeats 4000000
set_option linter.unusedVariables false
namespace Mine
def cL_ (s : String) : List Nat := (Str.ofString s).cps.toList
def qL (x : Str) : List Nat := 39 :: (x.cps.toList ++ [39])
def restL (up : Bool) (o sec : Str) : List Nat := (if o = Str.ofString "" then cL_ (if up then "Section " else "section ") else cL_ (if up then "Option " else "option ") ++ (qL o ++ cL_ " in section ")) ++ (qL sec ++ cL_ " already exists")
def lineL : Option Int → List Nat
  | none => []
  | some k => cL_ " [line " ++ ((fig2 k).cps.toList ++ cL_ "]")
def textL (d : RowD) : List Nat := match d.src with
  | none => restL true d.o d.sec
  | some x => cL_ "While reading from " ++ (qL x ++ (lineL d.line ++ (cL_ ": " ++ restL false d.o d.sec)))
def textD (d : RowD) : Str := ⟨(textL d).toArray⟩
def osL : List Str := [Str.ofString "", Str.ofString "k", Str.ofString "m"]
def ssL : List Str := [Str.ofString "s", Str.ofString "t", Str.ofString "u"]
def fsL : List Str := [Str.ofString "a.ini", Str.ofString "b.ini", Str.ofString ""]
structure Dom (d : RowD) : Prop where
  o : d.o ∈ osL
  sec : d.sec ∈ ssL
  src : d.src = none ∧ d.line = none ∨ ∃ x, d.src = some x ∧ x ∈ fsL
  line : d.line = none ∨ ∃ k, d.line = some ((k : Nat) : Int) ∧ k < 100
def fg (k : Nat) : Nat × Nat := (if k < 10 then 32 else 48 + k / 10, 48 + k % 10)
theorem fig_fin : ∀ k : Fin 100, fig2 (k.val : Int) = ⟨#[(fg k.val).1, (fg k.val).2]⟩ := by decide +kernel
theorem fig_is {k : Nat} (h : k < 100) : fig2 (k : Int) = ⟨#[(fg k).1, (fg k).2]⟩ := fig_fin ⟨k, h⟩
/-- order of lists of numbers -/
theorem lex_pre (p : List Nat) {a b : List Nat} : decide (p ++ a < p ++ b) = decide (a < b) := by
  induction p with
  | nil => rfl
  | cons x p ih =>
    rw [← ih]
    apply decide_eq_decide.mpr
    constructor
    · intro h
      cases h with
      | cons h => exact h
      | rel h => exact absurd h (Nat.lt_irrefl _)
    · exact fun h => .cons h
/-- two lists that part at some place -/
inductive Part : List Nat → List Nat → Prop
  | here {x y : Nat} {p q : List Nat} : x ≠ y → Part (x :: p) (y :: q)
  | there {x : Nat} {p q : List Nat} : Part p q → Part (x :: p) (x :: q)
theorem lex_part {p q : List Nat} (h : Part p q) {a b : List Nat} : decide (p ++ a < q ++ b) = decide (p < q) := by
  induction h with
  | here hxy =>
    apply decide_eq_decide.mpr
    constructor
    · intro h
      cases h with
      | cons h => exact absurd rfl hxy
      | rel h => exact .rel h
    · intro h
      cases h with
      | cons h => exact absurd rfl hxy
      | rel h => exact .rel h
  | @there x p q r ih =>
    have h1 := lex_pre [x] (a := p ++ a) (b := q ++ b)
    have h2 := lex_pre [x] (a := p) (b := q)
    rw [List.singleton_append, List.singleton_append] at h1 h2
    rw [List.cons_append, List.cons_append, h1, h2, ih]
def partB : List Nat → List Nat → Bool
  | x :: p, y :: q => if x = y then partB p q else true
  | _, _ => false
theorem part_of : ∀ {p q : List Nat}, partB p q = true → Part p q
  | [], _, h => by simp [partB] at h
  | _ :: _, [], h => by simp [partB] at h
  | x :: p, y :: q, h => by
    unfold partB at h
    by_cases e : x = y
    · subst e
      rw [if_pos rfl] at h
      exact .there (part_of h)
    · exact .here e
theorem ord_nn : ∀ o ∈ osL, ∀ x ∈ ssL, ∀ o' ∈ osL, ∀ x' ∈ ssL, keyGt (keyD ⟨o, x, none, none⟩) (keyD ⟨o', x', none, none⟩) = decide (restL true o' x' < restL true o x) := by decide +kernel
theorem ord_rest : ∀ o ∈ osL, ∀ x ∈ ssL, ∀ o' ∈ osL, ∀ x' ∈ ssL, gtF (eL ⟨2, o, 0, kindD o, o, x⟩ ⟨2, o, 0, kindD o', o', x'⟩) (cL ⟨2, o, 0, kindD o, o, x⟩ ⟨2, o, 0, kindD o', o', x'⟩) 3 3 = decide (restL false o' x' < restL false o x) := by decide +kernel
theorem rest_hd : ∀ o ∈ osL, ∀ x ∈ ssL, (decide ((restL true o x).head? = some 79) || decide ((restL true o x).head? = some 83)) = true ∧ kindD o < 2 := by decide +kernel
theorem src_ord : ∀ x ∈ fsL, ∀ y ∈ fsL, x = y ∨ (partB (qL y) (qL x) = true ∧ sGt x y = decide (qL y < qL x)) := by decide +kernel
def lineC (l : Option Int) : List Nat := lineL l ++ cL_ ": "
theorem fg_lt {j k : Nat} (hj : j < 100) (hk : k < 100) (h : j < k) : (fg j).1 < (fg k).1 ∨ (fg j).1 = (fg k).1 ∧ (fg j).2 < (fg k).2 := by
  unfold fg
  by_cases h1 : j < 10
  · rw [if_pos h1]
    by_cases h2 : k < 10
    · rw [if_pos h2]
      exact .inr ⟨rfl, by show 48 + j % 10 < 48 + k % 10; omega⟩
    · rw [if_neg h2]
      exact .inl (by show 32 < 48 + k / 10; omega)
  · have h2 : ¬ k < 10 := by omega
    rw [if_neg h1, if_neg h2]
    show 48 + j / 10 < 48 + k / 10 ∨ 48 + j / 10 = 48 + k / 10 ∧ 48 + j % 10 < 48 + k % 10
    omega
theorem lineC_some {k : Nat} (hk : k < 100) : lineC (some (k : Int)) = cL_ " [line " ++ ((fg k).1 :: (fg k).2 :: (cL_ "]" ++ cL_ ": ")) := by
  show (cL_ " [line " ++ ((fig2 (k : Int)).cps.toList ++ cL_ "]")) ++ cL_ ": " = _
  rw [fig_is hk]
  rfl
theorem line_lt {j k : Nat} (hj : j < 100) (hk : k < 100) (h : j < k) : Part (lineC (some (j : Int))) (lineC (some (k : Int))) ∧ lineC (some (j : Int)) < lineC (some (k : Int)) := by
  rw [lineC_some hj, lineC_some hk]
  have pre : ∀ (p : List Nat) {a b : List Nat}, Part a b → Part (p ++ a) (p ++ b) := fun p a b h => by
    induction p with
    | nil => exact h
    | cons x p ih => exact .there ih
  rcases fg_lt hj hk h with h1 | ⟨h1, h2⟩
  · exact ⟨pre _ (.here (Nat.ne_of_lt h1)), of_decide_eq_true (by rw [lex_pre]; exact decide_eq_true (.rel h1))⟩
  · rw [h1]
    exact ⟨pre _ (.there (.here (Nat.ne_of_lt h2))), of_decide_eq_true (by rw [lex_pre]; exact decide_eq_true (.cons (.rel h2)))⟩
theorem part_symm {p q : List Nat} (h : Part p q) : Part q p := by
  induction h with
  | here h => exact .here (Ne.symm h)
  | there _ ih => exact .there ih
theorem lt_asymm' {p q : List Nat} (h : p < q) : ¬ q < p := by
  intro h2
  exact absurd (List.lt_trans h h2) (List.lt_irrefl _)
def LineOk (l : Option Int) : Prop := l = none ∨ ∃ k, l = some ((k : Nat) : Int) ∧ k < 100
theorem none_some {k : Nat} (hk : k < 100) : Part (lineC (some (k : Int))) (lineC none) ∧ lineC (some (k : Int)) < lineC none := by
  rw [lineC_some hk]
  exact ⟨.here (by decide), .rel (by decide)⟩
theorem line_ord {l l' : Option Int} (h : LineOk l) (h' : LineOk l') : l = l' ∨ (l.getD 100 ≠ l'.getD 100 ∧ Part (lineC l') (lineC l) ∧ decide (l'.getD 100 < l.getD 100) = decide (lineC l' < lineC l)) := by
  rcases h with rfl | ⟨k, rfl, hk⟩ <;> rcases h' with rfl | ⟨k', rfl, hk'⟩
  · exact .inl rfl
  · refine .inr ⟨?_, (none_some hk').1, ?_⟩
    · simp only [Option.getD_none, Option.getD_some]; omega
    · rw [decide_eq_true (none_some hk').2, decide_eq_true]
      simp only [Option.getD_none, Option.getD_some]; omega
  · refine .inr ⟨?_, part_symm (none_some hk).1, ?_⟩
    · simp only [Option.getD_none, Option.getD_some]; omega
    · rw [decide_eq_false (lt_asymm' (none_some hk).2), decide_eq_false]
      simp only [Option.getD_none, Option.getD_some]; omega
  · rcases Nat.lt_trichotomy k k' with h | rfl | h
    · refine .inr ⟨?_, part_symm (line_lt hk hk' h).1, ?_⟩
      · simp only [Option.getD_some]; omega
      · rw [decide_eq_false (lt_asymm' (line_lt hk hk' h).2), decide_eq_false]
        simp only [Option.getD_some]; omega
    · exact .inl rfl
    · refine .inr ⟨?_, (line_lt hk' hk h).1, ?_⟩
      · simp only [Option.getD_some]; omega
      · rw [decide_eq_true (line_lt hk' hk h).2, decide_eq_true]
        simp only [Option.getD_some]; omega
theorem keyGt_some (a b : RowD) (x y : Str) (ha : a.src = some x) (hb : b.src = some y) : keyGt (keyD a) (keyD b) =
    if x = y then (if a.line.getD 100 = b.line.getD 100 then gtF (eL ⟨2, a.o, 0, kindD a.o, a.o, a.sec⟩ ⟨2, a.o, 0, kindD b.o, b.o, b.sec⟩) (cL ⟨2, a.o, 0, kindD a.o, a.o, a.sec⟩ ⟨2, a.o, 0, kindD b.o, b.o, b.sec⟩) 3 3 else decide (b.line.getD 100 < a.line.getD 100)) else sGt x y := by
  obtain ⟨o, sec, src, line⟩ := a
  obtain ⟨o', sec', src', line'⟩ := b
  subst ha hb
  by_cases h : x = y
  · subst h
    by_cases h2 : line.getD 100 = line'.getD 100
    · simp [keyGt, keyD, gtF, eL, cL, h2]
    · simp [keyGt, keyD, gtF, eL, cL, h2]
      exact decide_eq_decide.mpr Iff.rfl
  · simp [keyGt, keyD, gtF, eL, cL, h]
theorem textL_some {d : RowD} {x : Str} (h : d.src = some x) : textL d = cL_ "While reading from " ++ (qL x ++ (lineC d.line ++ restL false d.o d.sec)) := by
  unfold textL lineC
  rw [h]
  simp only [List.append_assoc]
theorem textL_none {d : RowD} (h : d.src = none) : textL d = restL true d.o d.sec := by
  unfold textL
  rw [h]
theorem hd_not {p q : List Nat} (h : (decide (p.head? = some 79) || decide (p.head? = some 83)) = true) : ¬ (cL_ "While reading from " ++ q < p) ∧ p < cL_ "While reading from " ++ q := by
  have e : cL_ "While reading from " = 87 :: (cL_ "While reading from ").tail := by decide +kernel
  rw [e]
  cases p with
  | nil => simp at h
  | cons x p =>
    have hx : x < 87 := by
      simp at h
      omega
    exact ⟨lt_asymm' (.rel hx), .rel hx⟩
theorem text_order {a b : RowD} (ha : Dom a) (hb : Dom b) : keyGt (keyD a) (keyD b) = sGt (textD a) (textD b) := by
  have e : sGt (textD a) (textD b) = decide (textL b < textL a) := by unfold sGt textD; simp only [List.toList_toArray]
  rw [e]
  rcases ha.src with ⟨sa, la⟩ | ⟨x, sa, hx⟩ <;> rcases hb.src with ⟨sb, lb⟩ | ⟨y, sb, hy⟩
  · rw [textL_none sa, textL_none sb, ← ord_nn _ ha.o _ ha.sec _ hb.o _ hb.sec]
    obtain ⟨o, sec, src, line⟩ := a
    obtain ⟨o', sec', src', line'⟩ := b
    subst sa la sb lb
    rfl
  · have h1 := rest_hd _ ha.o _ ha.sec
    rw [textL_none sa, textL_some sb, decide_eq_false (hd_not h1.1).1]
    have h2 : ¬ (kindD a.o = 2) := by omega
    have h3 : ¬ (2 < kindD a.o) := by omega
    simp [keyGt, keyD, sa, sb, gtF, eL, cL, h2, h3]
  · have h1 := rest_hd _ hb.o _ hb.sec
    rw [textL_none sb, textL_some sa, decide_eq_true (hd_not h1.1).2]
    have h2 : ¬ (2 = kindD b.o) := by omega
    simp [keyGt, keyD, sa, sb, gtF, eL, cL, h2, h1.2]
  · rw [keyGt_some a b x y sa sb, textL_some sa, textL_some sb, lex_pre]
    rcases src_ord x hx y hy with rfl | ⟨hp, hs⟩
    · rw [if_pos rfl, lex_pre]
      rcases line_ord (l := a.line) (l' := b.line) ha.line hb.line with hl | ⟨hn, hp, hd⟩
      · rw [hl, if_pos rfl, lex_pre]
        exact ord_rest _ ha.o _ ha.sec _ hb.o _ hb.sec
      · rw [if_neg hn, lex_part hp, hd]
    · have hne : x ≠ y := by
        rintro rfl
        have q : ∀ p : List Nat, partB p p = false := fun p => by
          induction p with
          | nil => rfl
          | cons x p ih => unfold partB; rw [if_pos rfl, ih]
        rw [q] at hp
        cases hp
      rw [if_neg hne, lex_part (part_of hp), hs]
end Mine
end
section
open PySem PySem.W PySem.Calls PyProof.Rows
set_option Elab.async false
set_option maxRecDepth 100000
set_option maxHeartbeats 4000000
set_option linter.unusedVariables false
namespace Mine
theorem ltCps_eq : ∀ a b : List Nat, Spec.ltCps a b = decide (a < b)
  | [], [] => rfl
  | [], _ :: _ => rfl
  | _ :: _, [] => rfl
  | a :: r, b :: t => by
    have e : decide (a :: r < b :: t) = (decide (a < b) || (a == b && decide (r < t))) := by
      rw [Bool.eq_iff_iff]
      simp only [decide_eq_true_eq, Bool.or_eq_true, Bool.and_eq_true, beq_iff_eq]
      exact List.cons_lt_cons_iff
    show (decide (a < b) || (a == b && Spec.ltCps r t)) = _
    rw [e, ltCps_eq r t]
def leS (a b : Str) : Prop := a.cps.toList ≤ b.cps.toList
theorem leS_trans {a b c : Str} (h : leS a b) (k : leS b c) : leS a c := List.le_trans h k
theorem leS_anti {a b : Str} (h : leS a b) (k : leS b a) : a = b := by
  have e : a.cps.toList = b.cps.toList := List.le_antisymm h k
  cases a; cases b
  exact congrArg Str.mk (Array.toList_inj.mp e)
theorem sGt_f {a b : Str} (h : sGt a b = false) : leS a b := of_decide_eq_false h
theorem sGt_t {a b : Str} (h : sGt a b = true) : leS b a := List.le_of_lt (of_decide_eq_true h)
theorem rising_pair : ∀ (r : List Str) (p : Str), risingS p r = true → (p :: r).Pairwise leS
  | [], p, _ => List.pairwise_singleton _ _
  | x :: r, p, h => by
    have h1 : (!Spec.ltCps x.cps.toList p.cps.toList) = true ∧ risingS x r = true := by simpa [risingS] using h
    have h2 := rising_pair r x h1.2
    have h3 : leS p x := by
      have := h1.1
      rw [ltCps_eq, Bool.not_eq_true'] at this
      exact of_decide_eq_false this
    rw [List.pairwise_cons]
    refine ⟨fun y hy => ?_, h2⟩
    rcases List.mem_cons.mp hy with rfl | hy
    · exact h3
    · exact leS_trans h3 ((List.pairwise_cons.mp h2).1 y hy)
theorem sorted_pair {ss : List Str} (h : sortedS ss = true) : ss.Pairwise leS := by
  cases ss with
  | nil => exact .nil
  | cons x r => exact rising_pair r x h
theorem sorted_uniq {ss tt : List Str} (p : ss.Perm tt) (h : ss.Pairwise leS) (k : tt.Pairwise leS) : ss = tt :=
  p.eq_of_pairwise (le := leS) (fun a b _ _ x y => leS_anti x y) h k
theorem posD_spec (xs : List RowD) (r : RowD) : ∀ n, n ≤ xs.length → (∀ j x, posD xs r n ≤ j → j < n → xs[j]? = some x → keyGt (keyD x) (keyD r) = true) ∧ (∀ j x, j + 1 = posD xs r n → xs[j]? = some x → keyGt (keyD x) (keyD r) = false)
  | 0, _ => ⟨fun j x _ h => absurd h (Nat.not_lt_zero _), fun j x h => absurd h (by unfold posD; omega)⟩
  | n + 1, hn => by
    have hlt : n < xs.length := hn
    have hx : xs[n]? = some xs[n] := List.getElem?_eq_getElem hlt
    cases h : keyGt (keyD xs[n]) (keyD r) with
    | true =>
      have e : posD xs r (n + 1) = posD xs r n := by rw [posD, hx]; simp only [h, if_true]
      obtain ⟨a, b⟩ := posD_spec xs r n (Nat.le_of_lt hlt)
      rw [e]
      refine ⟨fun j x h1 h2 h3 => ?_, b⟩
      rcases Nat.lt_or_ge j n with q | q
      · exact a j x h1 q h3
      · obtain rfl : j = n := by omega
        rw [hx] at h3
        cases h3
        exact h
    | false =>
      have e : posD xs r (n + 1) = n + 1 := by rw [posD, hx]; simp only [h, Bool.false_eq_true, if_false]
      rw [e]
      refine ⟨fun j x h1 h2 _ => absurd h2 (Nat.not_lt.mpr h1), fun j x h1 h3 => ?_⟩
      obtain rfl : j = n := by omega
      rw [hx] at h3
      cases h3
      exact h
def LE (a b : RowD) : Prop := leS (textD a) (textD b)
theorem ins_perm (xs : List RowD) (d : RowD) : (insD xs d).Perm (d :: xs) := by
  unfold insD
  have h := List.perm_middle (a := d) (l₁ := xs.take (posD xs d xs.length)) (l₂ := xs.drop (posD xs d xs.length))
  rwa [List.take_append_drop] at h
theorem ins_sorted {xs : List RowD} {d : RowD} (hx : ∀ x ∈ xs, Dom x) (hd : Dom d) (h : xs.Pairwise LE) : (insD xs d).Pairwise LE := by
  unfold insD
  obtain ⟨a, b⟩ := posD_spec xs d xs.length (Nat.le_refl _)
  have hle := posD_le xs d xs.length
  generalize posD xs d xs.length = k at a b hle
  have h' := h
  rw [← List.take_append_drop k xs, List.pairwise_append] at h'
  obtain ⟨h1, h2, h3⟩ := h'
  have gt : ∀ y ∈ xs.drop k, LE d y := by
    intro y hy
    obtain ⟨j, hj⟩ := List.mem_iff_getElem?.mp hy
    rw [List.getElem?_drop] at hj
    have hjl : k + j < xs.length := by
      rcases Nat.lt_or_ge (k + j) xs.length with q | q
      · exact q
      · rw [List.getElem?_eq_none q] at hj; cases hj
    have hg := a (k + j) y (Nat.le_add_right _ _) hjl hj
    rw [text_order (hx y (List.mem_of_mem_drop hy)) hd] at hg
    exact sGt_t hg
  have lt : ∀ y ∈ xs.take k, LE y d := by
    cases k with
    | zero => intro y hy; simp at hy
    | succ k =>
      have hkl : k < xs.length := hle
      have hz : xs[k]? = some xs[k] := List.getElem?_eq_getElem hkl
      have hg := b k _ rfl hz
      rw [text_order (hx _ (List.getElem_mem hkl)) hd] at hg
      have hlast : LE xs[k] d := sGt_f hg
      intro y hy
      rw [List.take_add_one, hz, Option.toList_some] at hy h1
      rcases List.mem_append.mp hy with hy | hy
      · exact leS_trans ((List.pairwise_append.mp h1).2.2 y hy _ (.head _)) hlast
      · rw [List.mem_singleton.mp hy]; exact hlast
  rw [List.pairwise_append, List.pairwise_cons]
  refine ⟨h1, ⟨gt, h2⟩, fun y hy z hz => ?_⟩
  rcases List.mem_cons.mp hz with rfl | hz
  · exact lt y hy
  · exact h3 y hy z hz
theorem fold_spec : ∀ (ds xs : List RowD), (∀ x ∈ xs, Dom x) → (∀ d ∈ ds, Dom d) → xs.Pairwise LE → (ds.foldl insD xs).Pairwise LE ∧ (ds.foldl insD xs).Perm (xs ++ ds)
  | [], xs, _, _, h => ⟨h, by simp⟩
  | d :: ds, xs, hx, hd, h => by
    have p := ins_perm xs d
    have hx2 : ∀ x ∈ insD xs d, Dom x := fun x hm => by
      rcases List.mem_cons.mp (p.mem_iff.mp hm) with rfl | hm
      · exact hd _ (.head _)
      · exact hx x hm
    obtain ⟨a, b⟩ := fold_spec ds (insD xs d) hx2 (fun x hm => hd x (.tail _ hm)) (ins_sorted hx (hd d (.head _)) h)
    refine ⟨a, b.trans ?_⟩
    refine (p.append_right ds).trans ?_
    rw [List.cons_append]
    exact List.perm_middle.symm
theorem sortD_perm {ds : List RowD} (hd : ∀ d ∈ ds, Dom d) : (sortD ds).Perm ds := (fold_spec ds [] (List.forall_mem_nil _) hd .nil).2
theorem sortD_text {ds : List RowD} {ss : List Str} (hd : ∀ d ∈ ds, Dom d) (p : ss.Perm (ds.map textD)) (h : sortedS ss = true) : ss = (sortD ds).map textD := by
  have h1 := (fold_spec ds [] (List.forall_mem_nil _) hd .nil).1
  refine sorted_uniq (p.trans ((sortD_perm hd).map textD).symm) (sorted_pair h) ?_
  exact List.pairwise_map.mpr h1
theorem sortD_dom {ds : List RowD} (hd : ∀ d ∈ ds, Dom d) : ∀ d ∈ sortD ds, Dom d := fun d hm => hd d ((sortD_perm hd).mem_iff.mp hm)
end Mine
end
section
open PySem PySem.W PySem.Calls PyProof.Rows PyProof.V
set_option Elab.async false
set_option maxRecDepth 100000
set_option maxHeartbeats 1000000
namespace Mine
section
variable {prog : Program} {w : World} {A : Around} {E : Value → Shared → Prop} {s : Shared} {h₀ : Heap} {L : Addr} {Q : Value → Shared → Prop} {a b : Addr} {news : List (Addr × Obj)}
/-- two lists that read alike are not unequal -/
theorem ne_alike {xs ys : List Value} {ds : List PyData} {n1 n2 : Nat} {as bs : List Addr} (N : News h₀ L s.heap news) (ha : (a, listOf xs.toArray n1) ∈ news) (hb : (b, listOf ys.toArray n2) ∈ news) (rx : ReadsAll s.heap xs ds as) (ry : ReadsAll s.heap ys ds bs)
    (hs : SeqAt.shaped (.list ds) = true) (hu : A.units + 64 < cLine) (he : PyData.eqvAll ds ds = true) (h : Q (.bool false) s) : wpAny (model prog w) A (compareOp .NotEq (.ref a) (.ref b)) Q E s :=
  ne_dataH (reads_list_at (N.get ha) rfl rfl (by simpa using rx)) (reads_list_at (N.get hb) rfl rfl (by simpa using ry)) hs hs hu (by rw [show PyData.eqv (.list ds) (.list ds) = true by simpa [PyData.eqv] using he]; exact h)
theorem reads_tup {h : Heap} {t : Addr} {vs : List Value} {ds : List PyData} {as : List Addr} {h₀ : Heap} {L : Addr} {news : List (Addr × Obj)} (N : News h₀ L h news) (ht : (t, ({ cls := .type "tuple", data := .seq vs.toArray } : Obj)) ∈ news) (r : ReadsAll h vs ds as) : Reads h (.ref t) (.tuple ds) as :=
  reads_tuple_at (N.get ht) rfl rfl (by simpa using r)
end
theorem strOk_app (a b : Str) : PyData.strOk (a ++ b) = (PyData.strOk a && PyData.strOk b) := by
  unfold PyData.strOk
  rw [PySem.Str.cps_append, Array.all_append]
theorem strOk_fig (n : Int) : PyData.strOk (fig2 n) = true := by
  unfold PyData.strOk fig2 numDigits
  simp only [List.all_toArray, List.all_append, Bool.and_eq_true, List.all_eq_true]
  refine ⟨fun x hx => ?_, ?_, fun x hx => ?_⟩
  · rw [(List.mem_replicate.mp hx).2]; decide
  · split <;> simp
  · obtain ⟨c, _, rfl⟩ := List.mem_map.mp hx
    have := c.valid
    have h2 : c.toNat < 0x110000 := by
      rcases this with h | h
      · exact Nat.lt_of_lt_of_le h (by decide)
      · exact h.2
    simpa using h2
end Mine
end
section
open PySem PySem.W PySem.W.X PySem.W.ZRun PyProof.Rows
set_option Elab.async false
set_option maxRecDepth 100000
set_option maxHeartbeats 0
namespace Mine
local macro_rules | `(tactic| k_head) => `(tactic| z_head)
open_top hz for PySem.Challenge.rw_dm0028_04
end Mine
end
section
open PySem
set_option maxRecDepth 100000
namespace Mine
theorem sx0 : Str.ofString " " = ⟨#[32]⟩ := rfl
theorem sx1 : Str.ofString " [line " = ⟨#[32, 91, 108, 105, 110, 101, 32]⟩ := rfl
theorem sx2 : Str.ofString " [line {0:2d}]" = ⟨#[32, 91, 108, 105, 110, 101, 32, 123, 48, 58, 50, 100, 125, 93]⟩ := rfl
theorem sx3 : Str.ofString " already exists" = ⟨#[32, 97, 108, 114, 101, 97, 100, 121, 32, 101, 120, 105, 115, 116, 115]⟩ := rfl
theorem sx4 : Str.ofString " in section " = ⟨#[32, 105, 110, 32, 115, 101, 99, 116, 105, 111, 110, 32]⟩ := rfl
theorem sx5 : Str.ofString "'" = ⟨#[39]⟩ := rfl
theorem sx6 : Str.ofString ".0" = ⟨#[46, 48]⟩ := rfl
theorem sx7 : Str.ofString "0123456789" = ⟨#[48, 49, 50, 51, 52, 53, 54, 55, 56, 57]⟩ := rfl
theorem sx8 : Str.ofString ": " = ⟨#[58, 32]⟩ := rfl
theorem sx9 : Str.ofString ": option " = ⟨#[58, 32, 111, 112, 116, 105, 111, 110, 32]⟩ := rfl
theorem sx10 : Str.ofString ": section " = ⟨#[58, 32, 115, 101, 99, 116, 105, 111, 110, 32]⟩ := rfl
theorem sx11 : Str.ofString "DuplicateOptionError" = ⟨#[68, 117, 112, 108, 105, 99, 97, 116, 101, 79, 112, 116, 105, 111, 110, 69, 114, 114, 111, 114]⟩ := rfl
theorem sx12 : Str.ofString "DuplicateOptionError.__init__" = ⟨#[68, 117, 112, 108, 105, 99, 97, 116, 101, 79, 112, 116, 105, 111, 110, 69, 114, 114, 111, 114, 46, 95, 95, 105, 110, 105, 116, 95, 95]⟩ := rfl
theorem sx13 : Str.ofString "DuplicateSectionError" = ⟨#[68, 117, 112, 108, 105, 99, 97, 116, 101, 83, 101, 99, 116, 105, 111, 110, 69, 114, 114, 111, 114]⟩ := rfl
theorem sx14 : Str.ofString "DuplicateSectionError.__init__" = ⟨#[68, 117, 112, 108, 105, 99, 97, 116, 101, 83, 101, 99, 116, 105, 111, 110, 69, 114, 114, 111, 114, 46, 95, 95, 105, 110, 105, 116, 95, 95]⟩ := rfl
theorem sx15 : Str.ofString "Error" = ⟨#[69, 114, 114, 111, 114]⟩ := rfl
theorem sx16 : Str.ofString "Error.__init__" = ⟨#[69, 114, 114, 111, 114, 46, 95, 95, 105, 110, 105, 116, 95, 95]⟩ := rfl
theorem sx17 : Str.ofString "Error.__repr__" = ⟨#[69, 114, 114, 111, 114, 46, 95, 95, 114, 101, 112, 114, 95, 95]⟩ := rfl
theorem sx18 : Str.ofString "Exception" = ⟨#[69, 120, 99, 101, 112, 116, 105, 111, 110]⟩ := rfl
theorem sx19 : Str.ofString "Option " = ⟨#[79, 112, 116, 105, 111, 110, 32]⟩ := rfl
theorem sx20 : Str.ofString "Section " = ⟨#[83, 101, 99, 116, 105, 111, 110, 32]⟩ := rfl
theorem sx21 : Str.ofString "While reading from " = ⟨#[87, 104, 105, 108, 101, 32, 114, 101, 97, 100, 105, 110, 103, 32, 102, 114, 111, 109, 32]⟩ := rfl
theorem sx22 : Str.ofString "]" = ⟨#[93]⟩ := rfl
theorem sx23 : Str.ofString "__init__" = ⟨#[95, 95, 105, 110, 105, 116, 95, 95]⟩ := rfl
theorem sx24 : Str.ofString "__name__" = ⟨#[95, 95, 110, 97, 109, 101, 95, 95]⟩ := rfl
theorem sx25 : Str.ofString "__repr__" = ⟨#[95, 95, 114, 101, 112, 114, 95, 95]⟩ := rfl
theorem sx26 : Str.ofString "__str__" = ⟨#[95, 95, 115, 116, 114, 95, 95]⟩ := rfl
theorem sx27 : Str.ofString "_law_key" = ⟨#[95, 108, 97, 119, 95, 107, 101, 121]⟩ := rfl
theorem sx28 : Str.ofString "_law_line" = ⟨#[95, 108, 97, 119, 95, 108, 105, 110, 101]⟩ := rfl
theorem sx29 : Str.ofString "_law_name" = ⟨#[95, 108, 97, 119, 95, 110, 97, 109, 101]⟩ := rfl
theorem sx30 : Str.ofString "_law_order" = ⟨#[95, 108, 97, 119, 95, 111, 114, 100, 101, 114]⟩ := rfl
theorem sx31 : Str.ofString "_law_row" = ⟨#[95, 108, 97, 119, 95, 114, 111, 119]⟩ := rfl
theorem sx32 : Str.ofString "a.ini" = ⟨#[97, 46, 105, 110, 105]⟩ := rfl
theorem sx33 : Str.ofString "abs" = ⟨#[97, 98, 115]⟩ := rfl
theorem sx34 : Str.ofString "append" = ⟨#[97, 112, 112, 101, 110, 100]⟩ := rfl
theorem sx35 : Str.ofString "args" = ⟨#[97, 114, 103, 115]⟩ := rfl
theorem sx36 : Str.ofString "at" = ⟨#[97, 116]⟩ := rfl
theorem sx37 : Str.ofString "b.ini" = ⟨#[98, 46, 105, 110, 105]⟩ := rfl
theorem sx38 : Str.ofString "cpy313.configparser" = ⟨#[99, 112, 121, 51, 49, 51, 46, 99, 111, 110, 102, 105, 103, 112, 97, 114, 115, 101, 114]⟩ := rfl
theorem sx39 : Str.ofString "divmod" = ⟨#[100, 105, 118, 109, 111, 100]⟩ := rfl
theorem sx40 : Str.ofString "end" = ⟨#[101, 110, 100]⟩ := rfl
theorem sx41 : Str.ofString "err" = ⟨#[101, 114, 114]⟩ := rfl
theorem sx42 : Str.ofString "extend" = ⟨#[101, 120, 116, 101, 110, 100]⟩ := rfl
theorem sx43 : Str.ofString "fast" = ⟨#[102, 97, 115, 116]⟩ := rfl
theorem sx44 : Str.ofString "figures" = ⟨#[102, 105, 103, 117, 114, 101, 115]⟩ := rfl
theorem sx45 : Str.ofString "find" = ⟨#[102, 105, 110, 100]⟩ := rfl
theorem sx46 : Str.ofString "format" = ⟨#[102, 111, 114, 109, 97, 116]⟩ := rfl
theorem sx47 : Str.ofString "found" = ⟨#[102, 111, 117, 110, 100]⟩ := rfl
theorem sx48 : Str.ofString "heads" = ⟨#[104, 101, 97, 100, 115]⟩ := rfl
theorem sx49 : Str.ofString "high" = ⟨#[104, 105, 103, 104]⟩ := rfl
theorem sx50 : Str.ofString "insert" = ⟨#[105, 110, 115, 101, 114, 116]⟩ := rfl
theorem sx51 : Str.ofString "join" = ⟨#[106, 111, 105, 110]⟩ := rfl
theorem sx52 : Str.ofString "kind" = ⟨#[107, 105, 110, 100]⟩ := rfl
theorem sx53 : Str.ofString "km" = ⟨#[107, 109]⟩ := rfl
theorem sx54 : Str.ofString "law" = ⟨#[108, 97, 119]⟩ := rfl
theorem sx55 : Str.ofString "law_dm0028_04" = ⟨#[108, 97, 119, 95, 100, 109, 48, 48, 50, 56, 95, 48, 52]⟩ := rfl
theorem sx56 : Str.ofString "len" = ⟨#[108, 101, 110]⟩ := rfl
theorem sx57 : Str.ofString "line" = ⟨#[108, 105, 110, 101]⟩ := rfl
theorem sx58 : Str.ofString "lineno" = ⟨#[108, 105, 110, 101, 110, 111]⟩ := rfl
theorem sx59 : Str.ofString "low" = ⟨#[108, 111, 119]⟩ := rfl
theorem sx60 : Str.ofString "message" = ⟨#[109, 101, 115, 115, 97, 103, 101]⟩ := rfl
theorem sx61 : Str.ofString "msg" = ⟨#[109, 115, 103]⟩ := rfl
theorem sx62 : Str.ofString "one" = ⟨#[111, 110, 101]⟩ := rfl
theorem sx63 : Str.ofString "option" = ⟨#[111, 112, 116, 105, 111, 110]⟩ := rfl
theorem sx64 : Str.ofString "option " = ⟨#[111, 112, 116, 105, 111, 110, 32]⟩ := rfl
theorem sx65 : Str.ofString "order" = ⟨#[111, 114, 100, 101, 114]⟩ := rfl
theorem sx66 : Str.ofString "repr" = ⟨#[114, 101, 112, 114]⟩ := rfl
theorem sx67 : Str.ofString "rest" = ⟨#[114, 101, 115, 116]⟩ := rfl
theorem sx68 : Str.ofString "row" = ⟨#[114, 111, 119]⟩ := rfl
theorem sx69 : Str.ofString "rows" = ⟨#[114, 111, 119, 115]⟩ := rfl
theorem sx70 : Str.ofString "script" = ⟨#[115, 99, 114, 105, 112, 116]⟩ := rfl
theorem sx71 : Str.ofString "section" = ⟨#[115, 101, 99, 116, 105, 111, 110]⟩ := rfl
theorem sx72 : Str.ofString "section " = ⟨#[115, 101, 99, 116, 105, 111, 110, 32]⟩ := rfl
theorem sx73 : Str.ofString "self" = ⟨#[115, 101, 108, 102]⟩ := rfl
theorem sx74 : Str.ofString "sorted" = ⟨#[115, 111, 114, 116, 101, 100]⟩ := rfl
theorem sx75 : Str.ofString "source" = ⟨#[115, 111, 117, 114, 99, 101]⟩ := rfl
theorem sx76 : Str.ofString "str" = ⟨#[115, 116, 114]⟩ := rfl
theorem sx77 : Str.ofString "stu" = ⟨#[115, 116, 117]⟩ := rfl
theorem sx78 : Str.ofString "which" = ⟨#[119, 104, 105, 99, 104]⟩ := rfl
theorem sx79 : Str.ofString "words" = ⟨#[119, 111, 114, 100, 115]⟩ := rfl
theorem sx80 : Str.ofString "x" = ⟨#[120]⟩ := rfl
end Mine
end
section
open PySem PySem.W PySem.W.X PySem.Calls PyProof.Rows PySem.W.ZRun
set_option maxRecDepth 100000
set_option maxHeartbeats 8000000
set_option linter.unusedVariables false
set_option linter.unusedSimpArgs false
namespace Mine
local macro_rules | `(tactic| walk_at $s:str) => `(tactic| k_extra $s)
local macro_rules | `(tactic| k_ne) => `(tactic| (refine neN ?_; (try dsimp only); k_extra "ne"))
section
theorem lay1 : True := by
  k_with_none
  k_with "ne" => (with_reducible (first | exact ns1 | exact ns2 | exact qlt (by assumption) | exact qgt (by assumption) | exact qne (by assumption) | exact qen (by assumption) | exact rlt (by assumption) | exact rgt (by assumption) | exact rne (by assumption) | exact ren (by assumption) | exact qlt (And.right (by assumption)) | exact qgt (And.right (by assumption)) | exact qne (And.right (by assumption)) | exact qen (And.right (by assumption)) | exact rlt (And.right (by assumption)) | exact rgt (And.right (by assumption)) | exact rne (And.right (by assumption)) | exact ren (And.right (by assumption)) | exact qlt (And.right (And.right (by assumption))) | exact qgt (And.right (And.right (by assumption))) | exact qne (And.right (And.right (by assumption))) | exact qen (And.right (And.right (by assumption))) | exact rlt (And.right (And.right (by assumption))) | exact rgt (And.right (And.right (by assumption))) | exact rne (And.right (And.right (by assumption))) | exact ren (And.right (And.right (by assumption))) | exact qlt (And.right (And.right (And.right (by assumption)))) | exact qgt (And.right (And.right (And.right (by assumption)))) | exact qne (And.right (And.right (And.right (by assumption)))) | exact qen (And.right (And.right (And.right (by assumption)))) | exact rlt (And.right (And.right (And.right (by assumption)))) | exact rgt (And.right (And.right (And.right (by assumption)))) | exact rne (And.right (And.right (And.right (by assumption)))) | exact ren (And.right (And.right (And.right (by assumption)))) | exact qlt (And.right (And.right (And.right (And.right (by assumption))))) | exact qgt (And.right (And.right (And.right (And.right (by assumption))))) | exact qne (And.right (And.right (And.right (And.right (by assumption))))) | exact qen (And.right (And.right (And.right (And.right (by assumption))))) | exact rlt (And.right (And.right (And.right (And.right (by assumption))))) | exact rgt (And.right (And.right (And.right (And.right (by assumption))))) | exact rne (And.right (And.right (And.right (And.right (by assumption))))) | exact ren (And.right (And.right (And.right (And.right (by assumption))))) | exact qlt (And.right (And.right (And.right (And.right (And.right (by assumption)))))) | exact qgt (And.right (And.right (And.right (And.right (And.right (by assumption)))))) | exact qne (And.right (And.right (And.right (And.right (And.right (by assumption)))))) | exact qen (And.right (And.right (And.right (And.right (And.right (by assumption)))))) | exact rlt (And.right (And.right (And.right (And.right (And.right (by assumption)))))) | exact rgt (And.right (And.right (And.right (And.right (And.right (by assumption)))))) | exact rne (And.right (And.right (And.right (And.right (And.right (by assumption)))))) | exact ren (And.right (And.right (And.right (And.right (And.right (by assumption)))))) | exact qlt (And.right (And.right (And.right (And.right (And.right (And.right (by assumption))))))) | exact qgt (And.right (And.right (And.right (And.right (And.right (And.right (by assumption))))))) | exact qne (And.right (And.right (And.right (And.right (And.right (And.right (by assumption))))))) | exact qen (And.right (And.right (And.right (And.right (And.right (And.right (by assumption))))))) | exact rlt (And.right (And.right (And.right (And.right (And.right (And.right (by assumption))))))) | exact rgt (And.right (And.right (And.right (And.right (And.right (And.right (by assumption))))))) | exact rne (And.right (And.right (And.right (And.right (And.right (And.right (by assumption))))))) | exact ren (And.right (And.right (And.right (And.right (And.right (And.right (by assumption))))))) | exact qlt (And.right (And.right (And.right (And.right (And.right (And.right (And.right (by assumption)))))))) | exact qgt (And.right (And.right (And.right (And.right (And.right (And.right (And.right (by assumption)))))))) | exact qne (And.right (And.right (And.right (And.right (And.right (And.right (And.right (by assumption)))))))) | exact qen (And.right (And.right (And.right (And.right (And.right (And.right (And.right (by assumption)))))))) | exact rlt (And.right (And.right (And.right (And.right (And.right (And.right (And.right (by assumption)))))))) | exact rgt (And.right (And.right (And.right (And.right (And.right (And.right (And.right (by assumption)))))))) | exact rne (And.right (And.right (And.right (And.right (And.right (And.right (And.right (by assumption)))))))) | exact ren (And.right (And.right (And.right (And.right (And.right (And.right (And.right (by assumption)))))))) | exact qlt (And.right (And.right (And.right (And.right (And.right (And.right (And.right (And.right (by assumption))))))))) | exact qgt (And.right (And.right (And.right (And.right (And.right (And.right (And.right (And.right (by assumption))))))))) | exact qne (And.right (And.right (And.right (And.right (And.right (And.right (And.right (And.right (by assumption))))))))) | exact qen (And.right (And.right (And.right (And.right (And.right (And.right (And.right (And.right (by assumption))))))))) | exact rlt (And.right (And.right (And.right (And.right (And.right (And.right (And.right (And.right (by assumption))))))))) | exact rgt (And.right (And.right (And.right (And.right (And.right (And.right (And.right (And.right (by assumption))))))))) | exact rne (And.right (And.right (And.right (And.right (And.right (And.right (And.right (And.right (by assumption))))))))) | exact ren (And.right (And.right (And.right (And.right (And.right (And.right (And.right (And.right (by assumption))))))))) | exact qlt (And.right (And.right (And.right (And.right (And.right (And.right (And.right (And.right (And.right (by assumption)))))))))) | exact qgt (And.right (And.right (And.right (And.right (And.right (And.right (And.right (And.right (And.right (by assumption)))))))))) | exact qne (And.right (And.right (And.right (And.right (And.right (And.right (And.right (And.right (And.right (by assumption)))))))))) | exact qen (And.right (And.right (And.right (And.right (And.right (And.right (And.right (And.right (And.right (by assumption)))))))))) | exact rlt (And.right (And.right (And.right (And.right (And.right (And.right (And.right (And.right (And.right (by assumption)))))))))) | exact rgt (And.right (And.right (And.right (And.right (And.right (And.right (And.right (And.right (And.right (by assumption)))))))))) | exact rne (And.right (And.right (And.right (And.right (And.right (And.right (And.right (And.right (And.right (by assumption)))))))))) | exact ren (And.right (And.right (And.right (And.right (And.right (And.right (And.right (And.right (And.right (by assumption)))))))))) | exact qlt (And.right (And.right (And.right (And.right (And.right (And.right (And.right (And.right (And.right (And.right (by assumption))))))))))) | exact qgt (And.right (And.right (And.right (And.right (And.right (And.right (And.right (And.right (And.right (And.right (by assumption))))))))))) | exact qne (And.right (And.right (And.right (And.right (And.right (And.right (And.right (And.right (And.right (And.right (by assumption))))))))))) | exact qen (And.right (And.right (And.right (And.right (And.right (And.right (And.right (And.right (And.right (And.right (by assumption))))))))))) | exact rlt (And.right (And.right (And.right (And.right (And.right (And.right (And.right (And.right (And.right (And.right (by assumption))))))))))) | exact rgt (And.right (And.right (And.right (And.right (And.right (And.right (And.right (And.right (And.right (And.right (by assumption))))))))))) | exact rne (And.right (And.right (And.right (And.right (And.right (And.right (And.right (And.right (And.right (And.right (by assumption))))))))))) | exact ren (And.right (And.right (And.right (And.right (And.right (And.right (And.right (And.right (And.right (And.right (by assumption))))))))))) | exact qlt (And.right (And.right (And.right (And.right (And.right (And.right (And.right (And.right (And.right (And.right (And.right (by assumption)))))))))))) | exact qgt (And.right (And.right (And.right (And.right (And.right (And.right (And.right (And.right (And.right (And.right (And.right (by assumption)))))))))))) | exact qne (And.right (And.right (And.right (And.right (And.right (And.right (And.right (And.right (And.right (And.right (And.right (by assumption)))))))))))) | exact qen (And.right (And.right (And.right (And.right (And.right (And.right (And.right (And.right (And.right (And.right (And.right (by assumption)))))))))))) | exact rlt (And.right (And.right (And.right (And.right (And.right (And.right (And.right (And.right (And.right (And.right (And.right (by assumption)))))))))))) | exact rgt (And.right (And.right (And.right (And.right (And.right (And.right (And.right (And.right (And.right (And.right (And.right (by assumption)))))))))))) | exact rne (And.right (And.right (And.right (And.right (And.right (And.right (And.right (And.right (And.right (And.right (And.right (by assumption)))))))))))) | exact ren (And.right (And.right (And.right (And.right (And.right (And.right (And.right (And.right (And.right (And.right (And.right (by assumption)))))))))))) | exact qlt (And.right (And.right (And.right (And.right (And.right (And.right (And.right (And.right (And.right (And.right (And.right (And.right (by assumption))))))))))))) | exact qgt (And.right (And.right (And.right (And.right (And.right (And.right (And.right (And.right (And.right (And.right (And.right (And.right (by assumption))))))))))))) | exact qne (And.right (And.right (And.right (And.right (And.right (And.right (And.right (And.right (And.right (And.right (And.right (And.right (by assumption))))))))))))) | exact qen (And.right (And.right (And.right (And.right (And.right (And.right (And.right (And.right (And.right (And.right (And.right (And.right (by assumption))))))))))))) | exact rlt (And.right (And.right (And.right (And.right (And.right (And.right (And.right (And.right (And.right (And.right (And.right (And.right (by assumption))))))))))))) | exact rgt (And.right (And.right (And.right (And.right (And.right (And.right (And.right (And.right (And.right (And.right (And.right (And.right (by assumption))))))))))))) | exact rne (And.right (And.right (And.right (And.right (And.right (And.right (And.right (And.right (And.right (And.right (And.right (And.right (by assumption))))))))))))) | exact ren (And.right (And.right (And.right (And.right (And.right (And.right (And.right (And.right (And.right (And.right (And.right (And.right (by assumption))))))))))))) | exact qlt (And.right (And.right (And.right (And.right (And.right (And.right (And.right (And.right (And.right (And.right (And.right (And.right (And.right (by assumption)))))))))))))) | exact qgt (And.right (And.right (And.right (And.right (And.right (And.right (And.right (And.right (And.right (And.right (And.right (And.right (And.right (by assumption)))))))))))))) | exact qne (And.right (And.right (And.right (And.right (And.right (And.right (And.right (And.right (And.right (And.right (And.right (And.right (And.right (by assumption)))))))))))))) | exact qen (And.right (And.right (And.right (And.right (And.right (And.right (And.right (And.right (And.right (And.right (And.right (And.right (And.right (by assumption)))))))))))))) | exact rlt (And.right (And.right (And.right (And.right (And.right (And.right (And.right (And.right (And.right (And.right (And.right (And.right (And.right (by assumption)))))))))))))) | exact rgt (And.right (And.right (And.right (And.right (And.right (And.right (And.right (And.right (And.right (And.right (And.right (And.right (And.right (by assumption)))))))))))))) | exact rne (And.right (And.right (And.right (And.right (And.right (And.right (And.right (And.right (And.right (And.right (And.right (And.right (And.right (by assumption)))))))))))))) | exact ren (And.right (And.right (And.right (And.right (And.right (And.right (And.right (And.right (And.right (And.right (And.right (And.right (And.right (by assumption)))))))))))))) | exact qlt (And.right (And.right (And.right (And.right (And.right (And.right (And.right (And.right (And.right (And.right (And.right (And.right (And.right (And.right (by assumption))))))))))))))) | exact qgt (And.right (And.right (And.right (And.right (And.right (And.right (And.right (And.right (And.right (And.right (And.right (And.right (And.right (And.right (by assumption))))))))))))))) | exact qne (And.right (And.right (And.right (And.right (And.right (And.right (And.right (And.right (And.right (And.right (And.right (And.right (And.right (And.right (by assumption))))))))))))))) | exact qen (And.right (And.right (And.right (And.right (And.right (And.right (And.right (And.right (And.right (And.right (And.right (And.right (And.right (And.right (by assumption))))))))))))))) | exact rlt (And.right (And.right (And.right (And.right (And.right (And.right (And.right (And.right (And.right (And.right (And.right (And.right (And.right (And.right (by assumption))))))))))))))) | exact rgt (And.right (And.right (And.right (And.right (And.right (And.right (And.right (And.right (And.right (And.right (And.right (And.right (And.right (And.right (by assumption))))))))))))))) | exact rne (And.right (And.right (And.right (And.right (And.right (And.right (And.right (And.right (And.right (And.right (And.right (And.right (And.right (And.right (by assumption))))))))))))))) | exact ren (And.right (And.right (And.right (And.right (And.right (And.right (And.right (And.right (And.right (And.right (And.right (And.right (And.right (And.right (by assumption))))))))))))))) | exact qlt (And.right (And.right (And.right (And.right (And.right (And.right (And.right (And.right (And.right (And.right (And.right (And.right (And.right (And.right (And.right (by assumption)))))))))))))))) | exact qgt (And.right (And.right (And.right (And.right (And.right (And.right (And.right (And.right (And.right (And.right (And.right (And.right (And.right (And.right (And.right (by assumption)))))))))))))))) | exact qne (And.right (And.right (And.right (And.right (And.right (And.right (And.right (And.right (And.right (And.right (And.right (And.right (And.right (And.right (And.right (by assumption)))))))))))))))) | exact qen (And.right (And.right (And.right (And.right (And.right (And.right (And.right (And.right (And.right (And.right (And.right (And.right (And.right (And.right (And.right (by assumption)))))))))))))))) | exact rlt (And.right (And.right (And.right (And.right (And.right (And.right (And.right (And.right (And.right (And.right (And.right (And.right (And.right (And.right (And.right (by assumption)))))))))))))))) | exact rgt (And.right (And.right (And.right (And.right (And.right (And.right (And.right (And.right (And.right (And.right (And.right (And.right (And.right (And.right (And.right (by assumption)))))))))))))))) | exact rne (And.right (And.right (And.right (And.right (And.right (And.right (And.right (And.right (And.right (And.right (And.right (And.right (And.right (And.right (And.right (by assumption)))))))))))))))) | exact ren (And.right (And.right (And.right (And.right (And.right (And.right (And.right (And.right (And.right (And.right (And.right (And.right (And.right (And.right (And.right (by assumption))))))))))))))))))
  trivial
theorem lay2 : True := by
  k_with "mine texts" => ((try dsimp only [← sx0, ← sx1, ← sx2, ← sx3, ← sx4, ← sx5, ← sx6, ← sx7, ← sx8, ← sx9, ← sx10, ← sx11, ← sx12, ← sx13, ← sx14, ← sx15, ← sx16, ← sx17, ← sx18, ← sx19, ← sx20, ← sx21, ← sx22, ← sx23, ← sx24, ← sx25, ← sx26, ← sx27, ← sx28, ← sx29, ← sx30, ← sx31, ← sx32, ← sx33, ← sx34, ← sx35, ← sx36, ← sx37, ← sx38, ← sx39, ← sx40, ← sx41, ← sx42, ← sx43, ← sx44, ← sx45, ← sx46, ← sx47, ← sx48, ← sx49, ← sx50, ← sx51, ← sx52, ← sx53, ← sx54, ← sx55, ← sx56, ← sx57, ← sx58, ← sx59, ← sx60, ← sx61, ← sx62, ← sx63, ← sx64, ← sx65, ← sx66, ← sx67, ← sx68, ← sx69, ← sx70, ← sx71, ← sx72, ← sx73, ← sx74, ← sx75, ← sx76, ← sx77, ← sx78, ← sx79, ← sx80]))
  k_with "mine drop" => (first | (refine' Drop.head ?a; (case a => k_all)) | (refine' Drop.tail ?a ?b; (case a => k_ne); (case b => walk_at "mine drop")))
  k_with "setAttr ref" => ((k_here; k_dflt (first | (refine' exc_set0 ?k1 ?k2 ?k3 ?k4 ?k5 ?k6 ?k7 ?k8 ?k9 ?_; (case k1 => k_asm); (case k2 => k_asm); (case k3 => k_asm); (case k4 => k_mem); (case k5 => k_is); (case k6 => kernel_rfl); (case k7 => k_is); (case k8 => k_is); (case k9 => intro zqd; k_upd); k_whole; intro zqdp zqhp zqFp zqNp zql1; (try k_lt zql1)) | (refine' exc_set_args ?k1 ?k2 ?k3 ?k4 ?k5 ?k6 ?k7 ?k8 ?k9 ?k10 ?_; (case k1 => k_asm); (case k2 => k_asm); (case k3 => k_asm); (case k4 => first | (refine' InstAt.of_exc ?N ?h1 ?h2; (case N => k_asm); (case h1 => k_mem); (case h2 => k_mem)) | (refine' InstAt.of_exc0 ?N ?h1; (case N => k_asm); (case h1 => k_mem))); (case k5 => exact isTup_of (by k_asm) (by k_mem)); (case k6 => k_is); (case k7 => kernel_rfl); (case k8 => k_is); (case k9 => k_is); (case k10 => k_upd); k_whole; intro zqhp zqFp zqNp) | (refine' exc_set ?k1 ?k2 ?k3 ?k4 ?k5 ?k6 ?k7 ?k8 ?k9 ?k10 ?k11 ?k12 ?_; (case k1 => k_asm); (case k2 => k_asm); (case k3 => k_asm); (case k4 => first | (refine' InstAt.of_exc ?N ?h1 ?h2; (case N => k_asm); (case h1 => k_mem); (case h2 => k_mem)) | (refine' InstAt.of_exc0 ?N ?h1; (case N => k_asm); (case h1 => k_mem))); (case k5 => k_is); (case k6 => kernel_rfl); (case k7 => k_is); (case k8 => k_is); (case k9 => k_get); (case k10 => k_put); (case k11 => k_upd); (case k12 => exact Nat.le_of_ble_eq_true rfl); k_whole; intro zqhp zqFp zqNp))))
  k_with "call builtin:Exception.__init__" => ((k_here; k_dflt (refine' exc_init_call ?k1 ?k2 ?k3 ?k4 ?k5 ?k6 ?_; (case k1 => k_asm); (case k2 => k_asm); (case k3 => k_asm); (case k4 => first | (refine' InstAt.of_exc ?N ?h1 ?h2; (case N => k_asm); (case h1 => k_mem); (case h2 => k_mem)) | (refine' InstAt.of_exc0 ?N ?h1; (case N => k_asm); (case h1 => k_mem))); (case k5 => k_is); (case k6 => intro zqt; k_upd); k_whole; intro zqtp zqhp zqFp zqNp zql1; (try k_lt zql1))))
  k_with "call builtin:repr" => ((k_here; k_dflt (refine' repr_use ?k1 ?k2 ?k3 ?k4 ?k5 ?k6 ?k7 ?_; (case k1 => assumption); (case k2 => k_asm); (case k3 => k_asm); (case k4 => exact rfl); (case k5 => exact rfl); (case k6 => exact Nat.le_of_ble_eq_true rfl); (case k7 => exact Nat.le_of_ble_eq_true rfl); k_whole; intro zqhp zqup zqtkp zqFp zqNp)))
  k_with "BackIn" => ((k_dflt (refine' back_ ?k1 ?k2 ?k3 ?_; (case k1 => k_asm); (case k2 => k_asm); (case k3 => walk_at "mine drop"); k_whole; intro zqFp zqNp; (try dsimp only))))
  k_with "call ref" => ((k_here; k_dflt (refine wpAny_call ?_; refine' enter_in ?k1 ?k2 ?k3 ?k4 ?k5 ?k6 ?k7 ?k8 ?kB ?c2 ?c3 ?c4 ?c5 ?_; (case k1 => k_asm); (case k2 => k_asm); (case k3 => k_asm); (case k4 => exact Top.nolimit (by assumption)); (case k5 => k_is); (case k6 => k_is); (case k7 => exact Nat.le_of_ble_eq_true rfl); (case k8 => first | ((with_reducible show BindsTo _ _ ⟨[_], []⟩ _); first | exact BindsTo.of_eq (binds := [(_, _)]) rfl | exact binds_K (binds := [(_, _)]) (by k_in) rfl (by k_is) rfl rfl rfl) | ((with_reducible show BindsTo _ _ ⟨[_, _], []⟩ _); first | exact BindsTo.of_eq (binds := [(_, _), (_, _)]) rfl | exact binds_K (binds := [(_, _), (_, _)]) (by k_in) rfl (by k_is) rfl rfl rfl) | ((with_reducible show BindsTo _ _ ⟨[_, _, _], []⟩ _); first | exact BindsTo.of_eq (binds := [(_, _), (_, _), (_, _)]) rfl | exact binds_K (binds := [(_, _), (_, _), (_, _)]) (by k_in) rfl (by k_is) rfl rfl rfl) | ((with_reducible show BindsTo _ _ ⟨[_, _, _, _], []⟩ _); first | exact BindsTo.of_eq (binds := [(_, _), (_, _), (_, _), (_, _)]) rfl | exact binds_K (binds := [(_, _), (_, _), (_, _), (_, _)]) (by k_in) rfl (by k_is) rfl rfl rfl) | ((with_reducible show BindsTo _ _ ⟨[_, _, _, _, _], []⟩ _); first | exact BindsTo.of_eq (binds := [(_, _), (_, _), (_, _), (_, _), (_, _)]) rfl | exact binds_K (binds := [(_, _), (_, _), (_, _), (_, _), (_, _)]) (by k_in) rfl (by k_is) rfl rfl rfl)); (case c5 => decide); (case kB => exact locs rfl); (case c2 => exact rfl); (case c3 => exact rfl); (case c4 => exact rfl); k_whole; intro zqoLp zqLp zqhp zqtkp zqFp zqNp zql1 zqn1; (try k_lt zql1); (try (replace zqn1 := allNe_of zqn1; simp only [AllNe, and_true] at zqn1)); (try dsimp only); walk_at "mine texts")))
  k_with "call builtin:str.join" => ((k_here; (with_reducible show wpAny _ _ (call (Value.builtin "str.join") [Value.str _ _, Value.ref _]) _ _ _); k_dflt (refine join_listC (by is_list) (by repeat constructor) (by decide) (by (simp only [List.map_cons, List.map_nil, List.sum_cons, List.sum_nil, List.length_cons, List.length_nil]; omega)) ?_); intro zqtp zqkp))
  k_with "getMethod type:Exception" => ((k_here; refine' method_type ?F ?X ?m (by decide +kernel) ?e ?h ?_; (case F => k_asm); (case X => k_asm); (case m => exact meta_Exception); (case e => k_dflt k_is); (case h => k_handed)))
  k_with "compareOp IsNot" => ((k_here; k_dflt (refine isNot_none (by assumption) ?_)))
  k_with "call builtin:str.format" => ((k_here; k_dflt (refine' line_use ?k1 ?k2 ?k3 ?k4 ?k5 ?k6 ?k7 ?_; (case k1 => assumption); (case k2 => k_asm); (case k3 => k_asm); (case k4 => exact rfl); (case k5 => exact rfl); (case k6 => exact Nat.le_of_ble_eq_true rfl); (case k7 => exact Nat.le_of_ble_eq_true rfl); k_whole; intro zqhp zqup zqtkp zqFp zqNp)))
  k_with "call builtin:str.format" => ((k_here; (with_reducible show wpAny _ _ (call (Value.builtin "str.format") [Value.str _ _, _, _, _, _]) _ _ _); k_dflt (refine' fmt_use ?k1 ?k2 ?k3 ?k4 ?k5 ?_; (case k1 => k_asm); (case k2 => k_asm); (case k3 => exact ⟨rfl, rfl, Nat.le_of_ble_eq_true rfl, Nat.le_of_ble_eq_true rfl⟩); (case k4 => exact args_5 _ _ _ _ _); (case k5 => walk_at "mine fmt")); k_whole; intro zqhp zqup zqtkp zqFp zqNp))
  k_with "pyReprObj" => ((k_here; k_dflt (refine' reprObj_use ?k1 ?k2 ?k3 ?k4 ?k5 ?k6 ?k7 ?_; (case k1 => assumption); (case k2 => k_asm); (case k3 => k_asm); (case k4 => exact rfl); (case k5 => exact rfl); (case k6 => exact Nat.le_of_ble_eq_true rfl); (case k7 => exact Nat.le_of_ble_eq_true rfl); k_whole; intro zqhp zqup zqtkp zqFp zqNp)))
  k_with "getAttr ref" => ((k_here; (with_reducible rename Gets _ _ _ _ _ _ => zg); k_dflt (refine' gets_use (by assumption) ?k2 ?_; (case k2 => k_asm))))
  trivial
theorem msg04 : ∀ {p : Program} {loose : List Str} {mean : ExcName → Option Value} {mg mb : Str → Option Value} (w : World) (s : Shared) (e : Addr) (t : Str) (u0 : Tok) (G : Gets PySem.Challenge.rw_dm0028_04.prog w s.heap e (Str.ofString "message") (.str t u0))
    (Q E : Value → Shared → Prop) (KX : (hz.heap_137 w.params).In s.heap) (T : Top p loose mean mg mb s.heap)
    (hQ : ∀ h' tk (u : Tok), Grow s.heap h' → Q (.str t u) { s with heap := h', toks := tk }),
    wpAny (model PySem.Challenge.rw_dm0028_04.prog w) (AN 880 4400) (call (.ref 36) [.ref e]) Q E s := by
  w_top off
  k_fill
  intro p loose mean mg mb w s e t u0 G Q E KX T hQ
  obtain ⟨hh, g, dr, tk, os⟩ := s
  dsimp only at KX T G hQ
  w_strict (
  refine wpAny_call ?_
  k_dflt (refine' enter_new (h₀ := hh) (binds := [("self", .ref e)]) (news := []) ?k1 ?k2 KX T.nolimit ?k9 ?k5 ?k6 ?k7 ?k8 ?kB ?c2 ?c3 ?c4 ?c5 ?_; (case k5 => k_is); (case k6 => k_is); (case k7 => exact Nat.le_of_ble_eq_true rfl); (case k8 => first | exact BindsTo.of_eq rfl | exact binds_K KX rfl (by k_is) rfl rfl rfl); (case c5 => decide); (case kB => exact locs rfl); (case c2 => exact rfl); (case c3 => exact rfl); (case c4 => exact rfl); (case k1 => exact fun _ _ e => e); (case k2 => exact Nat.le_refl _); (case k9 => exact List.forall_mem_nil _))
  intro L' h' tk' F' N' l1
  walk_at "mine texts"
  k_steps
  dsimp only
  exact hQ _ _ _ F'.keep)
end
section
theorem layIni041 : True := by
  k_with_none
  k_with "ne" => (with_reducible (first | exact ns1 | exact ns2 | exact qlt (by assumption) | exact qgt (by assumption) | exact qne (by assumption) | exact qen (by assumption) | exact rlt (by assumption) | exact rgt (by assumption) | exact rne (by assumption) | exact ren (by assumption) | exact qlt (And.right (by assumption)) | exact qgt (And.right (by assumption)) | exact qne (And.right (by assumption)) | exact qen (And.right (by assumption)) | exact rlt (And.right (by assumption)) | exact rgt (And.right (by assumption)) | exact rne (And.right (by assumption)) | exact ren (And.right (by assumption)) | exact qlt (And.right (And.right (by assumption))) | exact qgt (And.right (And.right (by assumption))) | exact qne (And.right (And.right (by assumption))) | exact qen (And.right (And.right (by assumption))) | exact rlt (And.right (And.right (by assumption))) | exact rgt (And.right (And.right (by assumption))) | exact rne (And.right (And.right (by assumption))) | exact ren (And.right (And.right (by assumption))) | exact qlt (And.right (And.right (And.right (by assumption)))) | exact qgt (And.right (And.right (And.right (by assumption)))) | exact qne (And.right (And.right (And.right (by assumption)))) | exact qen (And.right (And.right (And.right (by assumption)))) | exact rlt (And.right (And.right (And.right (by assumption)))) | exact rgt (And.right (And.right (And.right (by assumption)))) | exact rne (And.right (And.right (And.right (by assumption)))) | exact ren (And.right (And.right (And.right (by assumption)))) | exact qlt (And.right (And.right (And.right (And.right (by assumption))))) | exact qgt (And.right (And.right (And.right (And.right (by assumption))))) | exact qne (And.right (And.right (And.right (And.right (by assumption))))) | exact qen (And.right (And.right (And.right (And.right (by assumption))))) | exact rlt (And.right (And.right (And.right (And.right (by assumption))))) | exact rgt (And.right (And.right (And.right (And.right (by assumption))))) | exact rne (And.right (And.right (And.right (And.right (by assumption))))) | exact ren (And.right (And.right (And.right (And.right (by assumption))))) | exact qlt (And.right (And.right (And.right (And.right (And.right (by assumption)))))) | exact qgt (And.right (And.right (And.right (And.right (And.right (by assumption)))))) | exact qne (And.right (And.right (And.right (And.right (And.right (by assumption)))))) | exact qen (And.right (And.right (And.right (And.right (And.right (by assumption)))))) | exact rlt (And.right (And.right (And.right (And.right (And.right (by assumption)))))) | exact rgt (And.right (And.right (And.right (And.right (And.right (by assumption)))))) | exact rne (And.right (And.right (And.right (And.right (And.right (by assumption)))))) | exact ren (And.right (And.right (And.right (And.right (And.right (by assumption)))))) | exact qlt (And.right (And.right (And.right (And.right (And.right (And.right (by assumption))))))) | exact qgt (And.right (And.right (And.right (And.right (And.right (And.right (by assumption))))))) | exact qne (And.right (And.right (And.right (And.right (And.right (And.right (by assumption))))))) | exact qen (And.right (And.right (And.right (And.right (And.right (And.right (by assumption))))))) | exact rlt (And.right (And.right (And.right (And.right (And.right (And.right (by assumption))))))) | exact rgt (And.right (And.right (And.right (And.right (And.right (And.right (by assumption))))))) | exact rne (And.right (And.right (And.right (And.right (And.right (And.right (by assumption))))))) | exact ren (And.right (And.right (And.right (And.right (And.right (And.right (by assumption))))))) | exact qlt (And.right (And.right (And.right (And.right (And.right (And.right (And.right (by assumption)))))))) | exact qgt (And.right (And.right (And.right (And.right (And.right (And.right (And.right (by assumption)))))))) | exact qne (And.right (And.right (And.right (And.right (And.right (And.right (And.right (by assumption)))))))) | exact qen (And.right (And.right (And.right (And.right (And.right (And.right (And.right (by assumption)))))))) | exact rlt (And.right (And.right (And.right (And.right (And.right (And.right (And.right (by assumption)))))))) | exact rgt (And.right (And.right (And.right (And.right (And.right (And.right (And.right (by assumption)))))))) | exact rne (And.right (And.right (And.right (And.right (And.right (And.right (And.right (by assumption)))))))) | exact ren (And.right (And.right (And.right (And.right (And.right (And.right (And.right (by assumption)))))))) | exact qlt (And.right (And.right (And.right (And.right (And.right (And.right (And.right (And.right (by assumption))))))))) | exact qgt (And.right (And.right (And.right (And.right (And.right (And.right (And.right (And.right (by assumption))))))))) | exact qne (And.right (And.right (And.right (And.right (And.right (And.right (And.right (And.right (by assumption))))))))) | exact qen (And.right (And.right (And.right (And.right (And.right (And.right (And.right (And.right (by assumption))))))))) | exact rlt (And.right (And.right (And.right (And.right (And.right (And.right (And.right (And.right (by assumption))))))))) | exact rgt (And.right (And.right (And.right (And.right (And.right (And.right (And.right (And.right (by assumption))))))))) | exact rne (And.right (And.right (And.right (And.right (And.right (And.right (And.right (And.right (by assumption))))))))) | exact ren (And.right (And.right (And.right (And.right (And.right (And.right (And.right (And.right (by assumption))))))))) | exact qlt (And.right (And.right (And.right (And.right (And.right (And.right (And.right (And.right (And.right (by assumption)))))))))) | exact qgt (And.right (And.right (And.right (And.right (And.right (And.right (And.right (And.right (And.right (by assumption)))))))))) | exact qne (And.right (And.right (And.right (And.right (And.right (And.right (And.right (And.right (And.right (by assumption)))))))))) | exact qen (And.right (And.right (And.right (And.right (And.right (And.right (And.right (And.right (And.right (by assumption)))))))))) | exact rlt (And.right (And.right (And.right (And.right (And.right (And.right (And.right (And.right (And.right (by assumption)))))))))) | exact rgt (And.right (And.right (And.right (And.right (And.right (And.right (And.right (And.right (And.right (by assumption)))))))))) | exact rne (And.right (And.right (And.right (And.right (And.right (And.right (And.right (And.right (And.right (by assumption)))))))))) | exact ren (And.right (And.right (And.right (And.right (And.right (And.right (And.right (And.right (And.right (by assumption)))))))))) | exact qlt (And.right (And.right (And.right (And.right (And.right (And.right (And.right (And.right (And.right (And.right (by assumption))))))))))) | exact qgt (And.right (And.right (And.right (And.right (And.right (And.right (And.right (And.right (And.right (And.right (by assumption))))))))))) | exact qne (And.right (And.right (And.right (And.right (And.right (And.right (And.right (And.right (And.right (And.right (by assumption))))))))))) | exact qen (And.right (And.right (And.right (And.right (And.right (And.right (And.right (And.right (And.right (And.right (by assumption))))))))))) | exact rlt (And.right (And.right (And.right (And.right (And.right (And.right (And.right (And.right (And.right (And.right (by assumption))))))))))) | exact rgt (And.right (And.right (And.right (And.right (And.right (And.right (And.right (And.right (And.right (And.right (by assumption))))))))))) | exact rne (And.right (And.right (And.right (And.right (And.right (And.right (And.right (And.right (And.right (And.right (by assumption))))))))))) | exact ren (And.right (And.right (And.right (And.right (And.right (And.right (And.right (And.right (And.right (And.right (by assumption))))))))))) | exact qlt (And.right (And.right (And.right (And.right (And.right (And.right (And.right (And.right (And.right (And.right (And.right (by assumption)))))))))))) | exact qgt (And.right (And.right (And.right (And.right (And.right (And.right (And.right (And.right (And.right (And.right (And.right (by assumption)))))))))))) | exact qne (And.right (And.right (And.right (And.right (And.right (And.right (And.right (And.right (And.right (And.right (And.right (by assumption)))))))))))) | exact qen (And.right (And.right (And.right (And.right (And.right (And.right (And.right (And.right (And.right (And.right (And.right (by assumption)))))))))))) | exact rlt (And.right (And.right (And.right (And.right (And.right (And.right (And.right (And.right (And.right (And.right (And.right (by assumption)))))))))))) | exact rgt (And.right (And.right (And.right (And.right (And.right (And.right (And.right (And.right (And.right (And.right (And.right (by assumption)))))))))))) | exact rne (And.right (And.right (And.right (And.right (And.right (And.right (And.right (And.right (And.right (And.right (And.right (by assumption)))))))))))) | exact ren (And.right (And.right (And.right (And.right (And.right (And.right (And.right (And.right (And.right (And.right (And.right (by assumption)))))))))))) | exact qlt (And.right (And.right (And.right (And.right (And.right (And.right (And.right (And.right (And.right (And.right (And.right (And.right (by assumption))))))))))))) | exact qgt (And.right (And.right (And.right (And.right (And.right (And.right (And.right (And.right (And.right (And.right (And.right (And.right (by assumption))))))))))))) | exact qne (And.right (And.right (And.right (And.right (And.right (And.right (And.right (And.right (And.right (And.right (And.right (And.right (by assumption))))))))))))) | exact qen (And.right (And.right (And.right (And.right (And.right (And.right (And.right (And.right (And.right (And.right (And.right (And.right (by assumption))))))))))))) | exact rlt (And.right (And.right (And.right (And.right (And.right (And.right (And.right (And.right (And.right (And.right (And.right (And.right (by assumption))))))))))))) | exact rgt (And.right (And.right (And.right (And.right (And.right (And.right (And.right (And.right (And.right (And.right (And.right (And.right (by assumption))))))))))))) | exact rne (And.right (And.right (And.right (And.right (And.right (And.right (And.right (And.right (And.right (And.right (And.right (And.right (by assumption))))))))))))) | exact ren (And.right (And.right (And.right (And.right (And.right (And.right (And.right (And.right (And.right (And.right (And.right (And.right (by assumption))))))))))))) | exact qlt (And.right (And.right (And.right (And.right (And.right (And.right (And.right (And.right (And.right (And.right (And.right (And.right (And.right (by assumption)))))))))))))) | exact qgt (And.right (And.right (And.right (And.right (And.right (And.right (And.right (And.right (And.right (And.right (And.right (And.right (And.right (by assumption)))))))))))))) | exact qne (And.right (And.right (And.right (And.right (And.right (And.right (And.right (And.right (And.right (And.right (And.right (And.right (And.right (by assumption)))))))))))))) | exact qen (And.right (And.right (And.right (And.right (And.right (And.right (And.right (And.right (And.right (And.right (And.right (And.right (And.right (by assumption)))))))))))))) | exact rlt (And.right (And.right (And.right (And.right (And.right (And.right (And.right (And.right (And.right (And.right (And.right (And.right (And.right (by assumption)))))))))))))) | exact rgt (And.right (And.right (And.right (And.right (And.right (And.right (And.right (And.right (And.right (And.right (And.right (And.right (And.right (by assumption)))))))))))))) | exact rne (And.right (And.right (And.right (And.right (And.right (And.right (And.right (And.right (And.right (And.right (And.right (And.right (And.right (by assumption)))))))))))))) | exact ren (And.right (And.right (And.right (And.right (And.right (And.right (And.right (And.right (And.right (And.right (And.right (And.right (And.right (by assumption)))))))))))))) | exact qlt (And.right (And.right (And.right (And.right (And.right (And.right (And.right (And.right (And.right (And.right (And.right (And.right (And.right (And.right (by assumption))))))))))))))) | exact qgt (And.right (And.right (And.right (And.right (And.right (And.right (And.right (And.right (And.right (And.right (And.right (And.right (And.right (And.right (by assumption))))))))))))))) | exact qne (And.right (And.right (And.right (And.right (And.right (And.right (And.right (And.right (And.right (And.right (And.right (And.right (And.right (And.right (by assumption))))))))))))))) | exact qen (And.right (And.right (And.right (And.right (And.right (And.right (And.right (And.right (And.right (And.right (And.right (And.right (And.right (And.right (by assumption))))))))))))))) | exact rlt (And.right (And.right (And.right (And.right (And.right (And.right (And.right (And.right (And.right (And.right (And.right (And.right (And.right (And.right (by assumption))))))))))))))) | exact rgt (And.right (And.right (And.right (And.right (And.right (And.right (And.right (And.right (And.right (And.right (And.right (And.right (And.right (And.right (by assumption))))))))))))))) | exact rne (And.right (And.right (And.right (And.right (And.right (And.right (And.right (And.right (And.right (And.right (And.right (And.right (And.right (And.right (by assumption))))))))))))))) | exact ren (And.right (And.right (And.right (And.right (And.right (And.right (And.right (And.right (And.right (And.right (And.right (And.right (And.right (And.right (by assumption))))))))))))))) | exact qlt (And.right (And.right (And.right (And.right (And.right (And.right (And.right (And.right (And.right (And.right (And.right (And.right (And.right (And.right (And.right (by assumption)))))))))))))))) | exact qgt (And.right (And.right (And.right (And.right (And.right (And.right (And.right (And.right (And.right (And.right (And.right (And.right (And.right (And.right (And.right (by assumption)))))))))))))))) | exact qne (And.right (And.right (And.right (And.right (And.right (And.right (And.right (And.right (And.right (And.right (And.right (And.right (And.right (And.right (And.right (by assumption)))))))))))))))) | exact qen (And.right (And.right (And.right (And.right (And.right (And.right (And.right (And.right (And.right (And.right (And.right (And.right (And.right (And.right (And.right (by assumption)))))))))))))))) | exact rlt (And.right (And.right (And.right (And.right (And.right (And.right (And.right (And.right (And.right (And.right (And.right (And.right (And.right (And.right (And.right (by assumption)))))))))))))))) | exact rgt (And.right (And.right (And.right (And.right (And.right (And.right (And.right (And.right (And.right (And.right (And.right (And.right (And.right (And.right (And.right (by assumption)))))))))))))))) | exact rne (And.right (And.right (And.right (And.right (And.right (And.right (And.right (And.right (And.right (And.right (And.right (And.right (And.right (And.right (And.right (by assumption)))))))))))))))) | exact ren (And.right (And.right (And.right (And.right (And.right (And.right (And.right (And.right (And.right (And.right (And.right (And.right (And.right (And.right (And.right (by assumption))))))))))))))))))
  trivial
theorem layIni042 : True := by
  k_with "mine texts" => ((try dsimp only [← sx0, ← sx1, ← sx2, ← sx3, ← sx4, ← sx5, ← sx6, ← sx7, ← sx8, ← sx9, ← sx10, ← sx11, ← sx12, ← sx13, ← sx14, ← sx15, ← sx16, ← sx17, ← sx18, ← sx19, ← sx20, ← sx21, ← sx22, ← sx23, ← sx24, ← sx25, ← sx26, ← sx27, ← sx28, ← sx29, ← sx30, ← sx31, ← sx32, ← sx33, ← sx34, ← sx35, ← sx36, ← sx37, ← sx38, ← sx39, ← sx40, ← sx41, ← sx42, ← sx43, ← sx44, ← sx45, ← sx46, ← sx47, ← sx48, ← sx49, ← sx50, ← sx51, ← sx52, ← sx53, ← sx54, ← sx55, ← sx56, ← sx57, ← sx58, ← sx59, ← sx60, ← sx61, ← sx62, ← sx63, ← sx64, ← sx65, ← sx66, ← sx67, ← sx68, ← sx69, ← sx70, ← sx71, ← sx72, ← sx73, ← sx74, ← sx75, ← sx76, ← sx77, ← sx78, ← sx79, ← sx80]))
  k_with "mine drop" => (first | (refine' Drop.head ?a; (case a => k_all)) | (refine' Drop.tail ?a ?b; (case a => k_ne); (case b => walk_at "mine drop")))
  k_with "setAttr ref" => ((k_here; k_dflt (first | (refine' exc_set0 ?k1 ?k2 ?k3 ?k4 ?k5 ?k6 ?k7 ?k8 ?k9 ?_; (case k1 => k_asm); (case k2 => k_asm); (case k3 => k_asm); (case k4 => k_mem); (case k5 => k_is); (case k6 => kernel_rfl); (case k7 => k_is); (case k8 => k_is); (case k9 => intro zqd; k_upd); k_whole; intro zqdp zqhp zqFp zqNp zql1; (try k_lt zql1)) | (refine' exc_set_args ?k1 ?k2 ?k3 ?k4 ?k5 ?k6 ?k7 ?k8 ?k9 ?k10 ?_; (case k1 => k_asm); (case k2 => k_asm); (case k3 => k_asm); (case k4 => first | (refine' InstAt.of_exc ?N ?h1 ?h2; (case N => k_asm); (case h1 => k_mem); (case h2 => k_mem)) | (refine' InstAt.of_exc0 ?N ?h1; (case N => k_asm); (case h1 => k_mem))); (case k5 => exact isTup_of (by k_asm) (by k_mem)); (case k6 => k_is); (case k7 => kernel_rfl); (case k8 => k_is); (case k9 => k_is); (case k10 => k_upd); k_whole; intro zqhp zqFp zqNp) | (refine' exc_set ?k1 ?k2 ?k3 ?k4 ?k5 ?k6 ?k7 ?k8 ?k9 ?k10 ?k11 ?k12 ?_; (case k1 => k_asm); (case k2 => k_asm); (case k3 => k_asm); (case k4 => first | (refine' InstAt.of_exc ?N ?h1 ?h2; (case N => k_asm); (case h1 => k_mem); (case h2 => k_mem)) | (refine' InstAt.of_exc0 ?N ?h1; (case N => k_asm); (case h1 => k_mem))); (case k5 => k_is); (case k6 => kernel_rfl); (case k7 => k_is); (case k8 => k_is); (case k9 => k_get); (case k10 => k_put); (case k11 => k_upd); (case k12 => exact Nat.le_of_ble_eq_true rfl); k_whole; intro zqhp zqFp zqNp))))
  k_with "call builtin:Exception.__init__" => ((k_here; k_dflt (refine' exc_init_call ?k1 ?k2 ?k3 ?k4 ?k5 ?k6 ?_; (case k1 => k_asm); (case k2 => k_asm); (case k3 => k_asm); (case k4 => first | (refine' InstAt.of_exc ?N ?h1 ?h2; (case N => k_asm); (case h1 => k_mem); (case h2 => k_mem)) | (refine' InstAt.of_exc0 ?N ?h1; (case N => k_asm); (case h1 => k_mem))); (case k5 => k_is); (case k6 => intro zqt; k_upd); k_whole; intro zqtp zqhp zqFp zqNp zql1; (try k_lt zql1))))
  k_with "call builtin:repr" => ((k_here; k_dflt (refine' repr_use ?k1 ?k2 ?k3 ?k4 ?k5 ?k6 ?k7 ?_; (case k1 => assumption); (case k2 => k_asm); (case k3 => k_asm); (case k4 => exact rfl); (case k5 => exact rfl); (case k6 => exact Nat.le_of_ble_eq_true rfl); (case k7 => exact Nat.le_of_ble_eq_true rfl); k_whole; intro zqhp zqup zqtkp zqFp zqNp)))
  k_with "BackIn" => ((k_dflt (refine' back_ ?k1 ?k2 ?k3 ?_; (case k1 => k_asm); (case k2 => k_asm); (case k3 => walk_at "mine drop"); k_whole; intro zqFp zqNp; (try dsimp only))))
  k_with "call ref" => ((k_here; k_dflt (refine wpAny_call ?_; refine' enter_in ?k1 ?k2 ?k3 ?k4 ?k5 ?k6 ?k7 ?k8 ?kB ?c2 ?c3 ?c4 ?c5 ?_; (case k1 => k_asm); (case k2 => k_asm); (case k3 => k_asm); (case k4 => exact Top.nolimit (by assumption)); (case k5 => k_is); (case k6 => k_is); (case k7 => exact Nat.le_of_ble_eq_true rfl); (case k8 => first | ((with_reducible show BindsTo _ _ ⟨[_], []⟩ _); first | exact BindsTo.of_eq (binds := [(_, _)]) rfl | exact binds_K (binds := [(_, _)]) (by k_in) rfl (by k_is) rfl rfl rfl) | ((with_reducible show BindsTo _ _ ⟨[_, _], []⟩ _); first | exact BindsTo.of_eq (binds := [(_, _), (_, _)]) rfl | exact binds_K (binds := [(_, _), (_, _)]) (by k_in) rfl (by k_is) rfl rfl rfl) | ((with_reducible show BindsTo _ _ ⟨[_, _, _], []⟩ _); first | exact BindsTo.of_eq (binds := [(_, _), (_, _), (_, _)]) rfl | exact binds_K (binds := [(_, _), (_, _), (_, _)]) (by k_in) rfl (by k_is) rfl rfl rfl) | ((with_reducible show BindsTo _ _ ⟨[_, _, _, _], []⟩ _); first | exact BindsTo.of_eq (binds := [(_, _), (_, _), (_, _), (_, _)]) rfl | exact binds_K (binds := [(_, _), (_, _), (_, _), (_, _)]) (by k_in) rfl (by k_is) rfl rfl rfl) | ((with_reducible show BindsTo _ _ ⟨[_, _, _, _, _], []⟩ _); first | exact BindsTo.of_eq (binds := [(_, _), (_, _), (_, _), (_, _), (_, _)]) rfl | exact binds_K (binds := [(_, _), (_, _), (_, _), (_, _), (_, _)]) (by k_in) rfl (by k_is) rfl rfl rfl)); (case c5 => decide); (case kB => exact locs rfl); (case c2 => exact rfl); (case c3 => exact rfl); (case c4 => exact rfl); k_whole; intro zqoLp zqLp zqhp zqtkp zqFp zqNp zql1 zqn1; (try k_lt zql1); (try (replace zqn1 := allNe_of zqn1; simp only [AllNe, and_true] at zqn1)); (try dsimp only); walk_at "mine texts")))
  k_with "call builtin:str.join" => ((k_here; (with_reducible show wpAny _ _ (call (Value.builtin "str.join") [Value.str _ _, Value.ref _]) _ _ _); k_dflt (refine join_listC (by is_list) (by repeat constructor) (by decide) (by (simp only [List.map_cons, List.map_nil, List.sum_cons, List.sum_nil, List.length_cons, List.length_nil]; omega)) ?_); intro zqtp zqkp))
  k_with "getMethod type:Exception" => ((k_here; refine' method_type ?F ?X ?m (by decide +kernel) ?e ?h ?_; (case F => k_asm); (case X => k_asm); (case m => exact meta_Exception); (case e => k_dflt k_is); (case h => k_handed)))
  k_with "compareOp IsNot" => ((k_here; k_dflt (refine isNot_none (by assumption) ?_)))
  k_with "call builtin:str.format" => ((k_here; k_dflt (refine' line_use ?k1 ?k2 ?k3 ?k4 ?k5 ?k6 ?k7 ?_; (case k1 => assumption); (case k2 => k_asm); (case k3 => k_asm); (case k4 => exact rfl); (case k5 => exact rfl); (case k6 => exact Nat.le_of_ble_eq_true rfl); (case k7 => exact Nat.le_of_ble_eq_true rfl); k_whole; intro zqhp zqup zqtkp zqFp zqNp)))
  k_with "call builtin:str.format" => ((k_here; (with_reducible show wpAny _ _ (call (Value.builtin "str.format") [Value.str _ _, _, _, _, _]) _ _ _); k_dflt (refine' fmt_use ?k1 ?k2 ?k3 ?k4 ?k5 ?_; (case k1 => k_asm); (case k2 => k_asm); (case k3 => exact ⟨rfl, rfl, Nat.le_of_ble_eq_true rfl, Nat.le_of_ble_eq_true rfl⟩); (case k4 => exact args_5 _ _ _ _ _); (case k5 => walk_at "mine fmt")); k_whole; intro zqhp zqup zqtkp zqFp zqNp))
  k_with "pyReprObj" => ((k_here; k_dflt (refine' reprObj_use ?k1 ?k2 ?k3 ?k4 ?k5 ?k6 ?k7 ?_; (case k1 => assumption); (case k2 => k_asm); (case k3 => k_asm); (case k4 => exact rfl); (case k5 => exact rfl); (case k6 => exact Nat.le_of_ble_eq_true rfl); (case k7 => exact Nat.le_of_ble_eq_true rfl); k_whole; intro zqhp zqup zqtkp zqFp zqNp)))
  trivial
def iniB (K : Frag) (C : Addr) : Bool := (findIn K (.ref C) "__setattr__" == some (some (.builtin "object.__setattr__"))) && excOver K C && (takerIn K C "message" == some none) && hasDictIn K C && (subIn K (.ref C) (.type "Exception") == some true)
def Halt (P : Prop) : Prop := P
theorem layIni043 : True := by
  k_with "setAttr ref" => ((k_here; refine (show Halt _ from ?_)))
  k_with "call builtin:Exception.__init__" => ((k_here; refine (show Halt _ from ?_)))
  k_with "BackIn" => ((refine (show Halt _ from ?_)))
  trivial
theorem errIni : ∀ {p : Program} {loose : List Str} {mean : ExcName → Option Value} {mg mb : Str → Option Value} {w : World} {A : Around} {E : Value → Shared → Prop} {s : Shared} {h₀ : Heap} {L : Addr} {m : Str → Option Value} {news : List (Addr × Obj)} {gg : Obj → List (Addr × Obj)} {x ta C : Addr} {msg : Str} {u : Tok} {Q : Value → Shared → Prop}
    (F : Fr h₀ L s.heap m) (KX : (hz.heap_137 w.params).In h₀) (T : Top p loose mean mg mb h₀) (N : News h₀ L s.heap news) (U : UpdF x (excObj C none ta) news gg) (hC : iniB (hz.heap_137 w.params) C = true) (hA : A.depth < 900)
    (hQ : ∀ d t h' tk uk, Fr h₀ L h' m → News h₀ L h' ((t, tupObj [.str msg u]) :: (d, dictOf [⟨PyData.keyHash w.params "message", .str "message" uk, .str msg u⟩] 1) :: gg (excObj C (some d) t)) → (∀ p ∈ news, p.1 < d) → (∀ p ∈ news, p.1 < t) → d < t → Q .none { s with heap := h', toks := tk }),
    wpAny (model PySem.Challenge.rw_dm0028_04.prog w) A (call (.ref 29) [.ref x, .str msg u]) Q E s := by
  w_top off
  k_fill
  intro p loose mean mg mb w A E s h₀ L m news gg x ta C msg u Q F KX T N U hC hA hQ
  simp only [iniB, Bool.and_eq_true, beq_iff_eq] at hC
  obtain ⟨hh, g, dr, tk, os⟩ := s
  dsimp only at F N hQ
  w_strict (
  refine wpAny_call ?_
  k_dflt (refine' enter_in F KX N T.nolimit ?k5 ?k6 ?k7 ?k8 ?kB ?c2 ?c3 ?c4 ?c5 ?_; (case k5 => k_is); (case k6 => k_is); (case k7 => exact Nat.lt_of_lt_of_le hA (Nat.le_of_ble_eq_true rfl)); (case k8 => first | exact BindsTo.of_eq (binds := [(_, _), (_, _)]) rfl | exact binds_K (binds := [(_, _), (_, _)]) (KX.keeps F.keep) rfl (by k_is) rfl rfl rfl); (case c5 => decide); (case kB => exact locs rfl); (case c2 => exact rfl); (case c3 => exact rfl); (case c4 => exact rfl))
  intro oL L' h' tk' F' N' l1 l2
  clear F N
  walk_at "mine texts"
  k_steps
  unfold Halt
  have hxL : L ≠ x := fun e => l2 _ (updF_mem U).1 e.symm
  refine exc_set0 F' KX N' (.tail _ (updF_mem U).1) hC.1.1.1.1 hC.1.1.1.2 hC.1.1.2 hC.1.2 (fun d => .tail hxL (updF_to U _)) ?_
  intro d h1 F1 N1 l3
  clear F' N'
  k_steps
  unfold Halt
  have l5 : ∀ p ∈ news, p.1 < d := fun p hp => l3 p (.tail _ hp)
  have hxd : x < d := l5 _ (updF_mem U).1
  refine exc_init_call F1 KX N1 (InstAt.of_exc N1 (.tail _ (.tail _ ((updF_mem U).2 _).1)) (.head _)) hC.2 (fun t => .tail (Nat.ne_of_gt hxd) (.tail hxL (updF_on U _ _))) ?_
  intro t h2 F2 N2 l4
  clear F1 N1
  k_steps
  unfold Halt
  have l6 : L < t := l4 _ (.tail _ (.head _))
  have l7 : d < t := l4 _ (.head _)
  have l8 : L < d := l3 _ (.head _)
  intro hb
  have D : ∀ od : Obj, Drop L oL ((t, tupObj [.str msg u]) :: (d, od) :: (L, oL) :: gg (excObj C (some d) t)) ((t, tupObj [.str msg u]) :: (d, od) :: gg (excObj C (some d) t)) := fun od => Drop.tail (p := (t, tupObj [.str msg u])) (Nat.ne_of_gt l6) (Drop.tail (p := (d, od)) (Nat.ne_of_gt l8) (Drop.head (updF_ne (o' := excObj C (some d) t) U l2)))
  have F3 := hb _ (N2 _ (.tail _ (.tail _ (.head _)))).1 F2.keep
  have N3 := fun p hp => (⟨(N2 p ((D _).sub p hp).1).1, ((D _).sub p hp).2, (N2 p ((D _).sub p hp).1).2.2⟩ : _ ∧ _ ∧ _)
  exact hQ d t h2 _ _ F3 N3 l5 (fun p hp => Nat.lt_trans (l5 p hp) l7) l7)
end
section
theorem layKc04s1 : True := by
  k_with_none
  k_with "ne" => (with_reducible (first | exact ns1 | exact ns2 | exact qlt (by assumption) | exact qgt (by assumption) | exact qne (by assumption) | exact qen (by assumption) | exact rlt (by assumption) | exact rgt (by assumption) | exact rne (by assumption) | exact ren (by assumption) | exact qlt (And.right (by assumption)) | exact qgt (And.right (by assumption)) | exact qne (And.right (by assumption)) | exact qen (And.right (by assumption)) | exact rlt (And.right (by assumption)) | exact rgt (And.right (by assumption)) | exact rne (And.right (by assumption)) | exact ren (And.right (by assumption)) | exact qlt (And.right (And.right (by assumption))) | exact qgt (And.right (And.right (by assumption))) | exact qne (And.right (And.right (by assumption))) | exact qen (And.right (And.right (by assumption))) | exact rlt (And.right (And.right (by assumption))) | exact rgt (And.right (And.right (by assumption))) | exact rne (And.right (And.right (by assumption))) | exact ren (And.right (And.right (by assumption))) | exact qlt (And.right (And.right (And.right (by assumption)))) | exact qgt (And.right (And.right (And.right (by assumption)))) | exact qne (And.right (And.right (And.right (by assumption)))) | exact qen (And.right (And.right (And.right (by assumption)))) | exact rlt (And.right (And.right (And.right (by assumption)))) | exact rgt (And.right (And.right (And.right (by assumption)))) | exact rne (And.right (And.right (And.right (by assumption)))) | exact ren (And.right (And.right (And.right (by assumption)))) | exact qlt (And.right (And.right (And.right (And.right (by assumption))))) | exact qgt (And.right (And.right (And.right (And.right (by assumption))))) | exact qne (And.right (And.right (And.right (And.right (by assumption))))) | exact qen (And.right (And.right (And.right (And.right (by assumption))))) | exact rlt (And.right (And.right (And.right (And.right (by assumption))))) | exact rgt (And.right (And.right (And.right (And.right (by assumption))))) | exact rne (And.right (And.right (And.right (And.right (by assumption))))) | exact ren (And.right (And.right (And.right (And.right (by assumption))))) | exact qlt (And.right (And.right (And.right (And.right (And.right (by assumption)))))) | exact qgt (And.right (And.right (And.right (And.right (And.right (by assumption)))))) | exact qne (And.right (And.right (And.right (And.right (And.right (by assumption)))))) | exact qen (And.right (And.right (And.right (And.right (And.right (by assumption)))))) | exact rlt (And.right (And.right (And.right (And.right (And.right (by assumption)))))) | exact rgt (And.right (And.right (And.right (And.right (And.right (by assumption)))))) | exact rne (And.right (And.right (And.right (And.right (And.right (by assumption)))))) | exact ren (And.right (And.right (And.right (And.right (And.right (by assumption)))))) | exact qlt (And.right (And.right (And.right (And.right (And.right (And.right (by assumption))))))) | exact qgt (And.right (And.right (And.right (And.right (And.right (And.right (by assumption))))))) | exact qne (And.right (And.right (And.right (And.right (And.right (And.right (by assumption))))))) | exact qen (And.right (And.right (And.right (And.right (And.right (And.right (by assumption))))))) | exact rlt (And.right (And.right (And.right (And.right (And.right (And.right (by assumption))))))) | exact rgt (And.right (And.right (And.right (And.right (And.right (And.right (by assumption))))))) | exact rne (And.right (And.right (And.right (And.right (And.right (And.right (by assumption))))))) | exact ren (And.right (And.right (And.right (And.right (And.right (And.right (by assumption))))))) | exact qlt (And.right (And.right (And.right (And.right (And.right (And.right (And.right (by assumption)))))))) | exact qgt (And.right (And.right (And.right (And.right (And.right (And.right (And.right (by assumption)))))))) | exact qne (And.right (And.right (And.right (And.right (And.right (And.right (And.right (by assumption)))))))) | exact qen (And.right (And.right (And.right (And.right (And.right (And.right (And.right (by assumption)))))))) | exact rlt (And.right (And.right (And.right (And.right (And.right (And.right (And.right (by assumption)))))))) | exact rgt (And.right (And.right (And.right (And.right (And.right (And.right (And.right (by assumption)))))))) | exact rne (And.right (And.right (And.right (And.right (And.right (And.right (And.right (by assumption)))))))) | exact ren (And.right (And.right (And.right (And.right (And.right (And.right (And.right (by assumption)))))))) | exact qlt (And.right (And.right (And.right (And.right (And.right (And.right (And.right (And.right (by assumption))))))))) | exact qgt (And.right (And.right (And.right (And.right (And.right (And.right (And.right (And.right (by assumption))))))))) | exact qne (And.right (And.right (And.right (And.right (And.right (And.right (And.right (And.right (by assumption))))))))) | exact qen (And.right (And.right (And.right (And.right (And.right (And.right (And.right (And.right (by assumption))))))))) | exact rlt (And.right (And.right (And.right (And.right (And.right (And.right (And.right (And.right (by assumption))))))))) | exact rgt (And.right (And.right (And.right (And.right (And.right (And.right (And.right (And.right (by assumption))))))))) | exact rne (And.right (And.right (And.right (And.right (And.right (And.right (And.right (And.right (by assumption))))))))) | exact ren (And.right (And.right (And.right (And.right (And.right (And.right (And.right (And.right (by assumption))))))))) | exact qlt (And.right (And.right (And.right (And.right (And.right (And.right (And.right (And.right (And.right (by assumption)))))))))) | exact qgt (And.right (And.right (And.right (And.right (And.right (And.right (And.right (And.right (And.right (by assumption)))))))))) | exact qne (And.right (And.right (And.right (And.right (And.right (And.right (And.right (And.right (And.right (by assumption)))))))))) | exact qen (And.right (And.right (And.right (And.right (And.right (And.right (And.right (And.right (And.right (by assumption)))))))))) | exact rlt (And.right (And.right (And.right (And.right (And.right (And.right (And.right (And.right (And.right (by assumption)))))))))) | exact rgt (And.right (And.right (And.right (And.right (And.right (And.right (And.right (And.right (And.right (by assumption)))))))))) | exact rne (And.right (And.right (And.right (And.right (And.right (And.right (And.right (And.right (And.right (by assumption)))))))))) | exact ren (And.right (And.right (And.right (And.right (And.right (And.right (And.right (And.right (And.right (by assumption)))))))))) | exact qlt (And.right (And.right (And.right (And.right (And.right (And.right (And.right (And.right (And.right (And.right (by assumption))))))))))) | exact qgt (And.right (And.right (And.right (And.right (And.right (And.right (And.right (And.right (And.right (And.right (by assumption))))))))))) | exact qne (And.right (And.right (And.right (And.right (And.right (And.right (And.right (And.right (And.right (And.right (by assumption))))))))))) | exact qen (And.right (And.right (And.right (And.right (And.right (And.right (And.right (And.right (And.right (And.right (by assumption))))))))))) | exact rlt (And.right (And.right (And.right (And.right (And.right (And.right (And.right (And.right (And.right (And.right (by assumption))))))))))) | exact rgt (And.right (And.right (And.right (And.right (And.right (And.right (And.right (And.right (And.right (And.right (by assumption))))))))))) | exact rne (And.right (And.right (And.right (And.right (And.right (And.right (And.right (And.right (And.right (And.right (by assumption))))))))))) | exact ren (And.right (And.right (And.right (And.right (And.right (And.right (And.right (And.right (And.right (And.right (by assumption))))))))))) | exact qlt (And.right (And.right (And.right (And.right (And.right (And.right (And.right (And.right (And.right (And.right (And.right (by assumption)))))))))))) | exact qgt (And.right (And.right (And.right (And.right (And.right (And.right (And.right (And.right (And.right (And.right (And.right (by assumption)))))))))))) | exact qne (And.right (And.right (And.right (And.right (And.right (And.right (And.right (And.right (And.right (And.right (And.right (by assumption)))))))))))) | exact qen (And.right (And.right (And.right (And.right (And.right (And.right (And.right (And.right (And.right (And.right (And.right (by assumption)))))))))))) | exact rlt (And.right (And.right (And.right (And.right (And.right (And.right (And.right (And.right (And.right (And.right (And.right (by assumption)))))))))))) | exact rgt (And.right (And.right (And.right (And.right (And.right (And.right (And.right (And.right (And.right (And.right (And.right (by assumption)))))))))))) | exact rne (And.right (And.right (And.right (And.right (And.right (And.right (And.right (And.right (And.right (And.right (And.right (by assumption)))))))))))) | exact ren (And.right (And.right (And.right (And.right (And.right (And.right (And.right (And.right (And.right (And.right (And.right (by assumption)))))))))))) | exact qlt (And.right (And.right (And.right (And.right (And.right (And.right (And.right (And.right (And.right (And.right (And.right (And.right (by assumption))))))))))))) | exact qgt (And.right (And.right (And.right (And.right (And.right (And.right (And.right (And.right (And.right (And.right (And.right (And.right (by assumption))))))))))))) | exact qne (And.right (And.right (And.right (And.right (And.right (And.right (And.right (And.right (And.right (And.right (And.right (And.right (by assumption))))))))))))) | exact qen (And.right (And.right (And.right (And.right (And.right (And.right (And.right (And.right (And.right (And.right (And.right (And.right (by assumption))))))))))))) | exact rlt (And.right (And.right (And.right (And.right (And.right (And.right (And.right (And.right (And.right (And.right (And.right (And.right (by assumption))))))))))))) | exact rgt (And.right (And.right (And.right (And.right (And.right (And.right (And.right (And.right (And.right (And.right (And.right (And.right (by assumption))))))))))))) | exact rne (And.right (And.right (And.right (And.right (And.right (And.right (And.right (And.right (And.right (And.right (And.right (And.right (by assumption))))))))))))) | exact ren (And.right (And.right (And.right (And.right (And.right (And.right (And.right (And.right (And.right (And.right (And.right (And.right (by assumption))))))))))))) | exact qlt (And.right (And.right (And.right (And.right (And.right (And.right (And.right (And.right (And.right (And.right (And.right (And.right (And.right (by assumption)))))))))))))) | exact qgt (And.right (And.right (And.right (And.right (And.right (And.right (And.right (And.right (And.right (And.right (And.right (And.right (And.right (by assumption)))))))))))))) | exact qne (And.right (And.right (And.right (And.right (And.right (And.right (And.right (And.right (And.right (And.right (And.right (And.right (And.right (by assumption)))))))))))))) | exact qen (And.right (And.right (And.right (And.right (And.right (And.right (And.right (And.right (And.right (And.right (And.right (And.right (And.right (by assumption)))))))))))))) | exact rlt (And.right (And.right (And.right (And.right (And.right (And.right (And.right (And.right (And.right (And.right (And.right (And.right (And.right (by assumption)))))))))))))) | exact rgt (And.right (And.right (And.right (And.right (And.right (And.right (And.right (And.right (And.right (And.right (And.right (And.right (And.right (by assumption)))))))))))))) | exact rne (And.right (And.right (And.right (And.right (And.right (And.right (And.right (And.right (And.right (And.right (And.right (And.right (And.right (by assumption)))))))))))))) | exact ren (And.right (And.right (And.right (And.right (And.right (And.right (And.right (And.right (And.right (And.right (And.right (And.right (And.right (by assumption)))))))))))))) | exact qlt (And.right (And.right (And.right (And.right (And.right (And.right (And.right (And.right (And.right (And.right (And.right (And.right (And.right (And.right (by assumption))))))))))))))) | exact qgt (And.right (And.right (And.right (And.right (And.right (And.right (And.right (And.right (And.right (And.right (And.right (And.right (And.right (And.right (by assumption))))))))))))))) | exact qne (And.right (And.right (And.right (And.right (And.right (And.right (And.right (And.right (And.right (And.right (And.right (And.right (And.right (And.right (by assumption))))))))))))))) | exact qen (And.right (And.right (And.right (And.right (And.right (And.right (And.right (And.right (And.right (And.right (And.right (And.right (And.right (And.right (by assumption))))))))))))))) | exact rlt (And.right (And.right (And.right (And.right (And.right (And.right (And.right (And.right (And.right (And.right (And.right (And.right (And.right (And.right (by assumption))))))))))))))) | exact rgt (And.right (And.right (And.right (And.right (And.right (And.right (And.right (And.right (And.right (And.right (And.right (And.right (And.right (And.right (by assumption))))))))))))))) | exact rne (And.right (And.right (And.right (And.right (And.right (And.right (And.right (And.right (And.right (And.right (And.right (And.right (And.right (And.right (by assumption))))))))))))))) | exact ren (And.right (And.right (And.right (And.right (And.right (And.right (And.right (And.right (And.right (And.right (And.right (And.right (And.right (And.right (by assumption))))))))))))))) | exact qlt (And.right (And.right (And.right (And.right (And.right (And.right (And.right (And.right (And.right (And.right (And.right (And.right (And.right (And.right (And.right (by assumption)))))))))))))))) | exact qgt (And.right (And.right (And.right (And.right (And.right (And.right (And.right (And.right (And.right (And.right (And.right (And.right (And.right (And.right (And.right (by assumption)))))))))))))))) | exact qne (And.right (And.right (And.right (And.right (And.right (And.right (And.right (And.right (And.right (And.right (And.right (And.right (And.right (And.right (And.right (by assumption)))))))))))))))) | exact qen (And.right (And.right (And.right (And.right (And.right (And.right (And.right (And.right (And.right (And.right (And.right (And.right (And.right (And.right (And.right (by assumption)))))))))))))))) | exact rlt (And.right (And.right (And.right (And.right (And.right (And.right (And.right (And.right (And.right (And.right (And.right (And.right (And.right (And.right (And.right (by assumption)))))))))))))))) | exact rgt (And.right (And.right (And.right (And.right (And.right (And.right (And.right (And.right (And.right (And.right (And.right (And.right (And.right (And.right (And.right (by assumption)))))))))))))))) | exact rne (And.right (And.right (And.right (And.right (And.right (And.right (And.right (And.right (And.right (And.right (And.right (And.right (And.right (And.right (And.right (by assumption)))))))))))))))) | exact ren (And.right (And.right (And.right (And.right (And.right (And.right (And.right (And.right (And.right (And.right (And.right (And.right (And.right (And.right (And.right (by assumption))))))))))))))))))
  trivial
theorem layKc04s2 : True := by
  k_with "mine texts" => ((try dsimp only [← sx0, ← sx1, ← sx2, ← sx3, ← sx4, ← sx5, ← sx6, ← sx7, ← sx8, ← sx9, ← sx10, ← sx11, ← sx12, ← sx13, ← sx14, ← sx15, ← sx16, ← sx17, ← sx18, ← sx19, ← sx20, ← sx21, ← sx22, ← sx23, ← sx24, ← sx25, ← sx26, ← sx27, ← sx28, ← sx29, ← sx30, ← sx31, ← sx32, ← sx33, ← sx34, ← sx35, ← sx36, ← sx37, ← sx38, ← sx39, ← sx40, ← sx41, ← sx42, ← sx43, ← sx44, ← sx45, ← sx46, ← sx47, ← sx48, ← sx49, ← sx50, ← sx51, ← sx52, ← sx53, ← sx54, ← sx55, ← sx56, ← sx57, ← sx58, ← sx59, ← sx60, ← sx61, ← sx62, ← sx63, ← sx64, ← sx65, ← sx66, ← sx67, ← sx68, ← sx69, ← sx70, ← sx71, ← sx72, ← sx73, ← sx74, ← sx75, ← sx76, ← sx77, ← sx78, ← sx79, ← sx80]))
  k_with "mine drop" => (first | (refine' Drop.head ?a; (case a => k_all)) | (refine' Drop.tail ?a ?b; (case a => k_ne); (case b => walk_at "mine drop")))
  k_with "setAttr ref" => ((k_here; k_dflt (first | (refine' exc_set0 ?k1 ?k2 ?k3 ?k4 ?k5 ?k6 ?k7 ?k8 ?k9 ?_; (case k1 => k_asm); (case k2 => k_asm); (case k3 => k_asm); (case k4 => k_mem); (case k5 => k_is); (case k6 => kernel_rfl); (case k7 => k_is); (case k8 => k_is); (case k9 => intro zqd; k_upd); k_whole; intro zqdp zqhp zqFp zqNp zql1; (try k_lt zql1)) | (refine' exc_set_args ?k1 ?k2 ?k3 ?k4 ?k5 ?k6 ?k7 ?k8 ?k9 ?k10 ?_; (case k1 => k_asm); (case k2 => k_asm); (case k3 => k_asm); (case k4 => first | (refine' InstAt.of_exc ?N ?h1 ?h2; (case N => k_asm); (case h1 => k_mem); (case h2 => k_mem)) | (refine' InstAt.of_exc0 ?N ?h1; (case N => k_asm); (case h1 => k_mem))); (case k5 => exact isTup_of (by k_asm) (by k_mem)); (case k6 => k_is); (case k7 => kernel_rfl); (case k8 => k_is); (case k9 => k_is); (case k10 => k_upd); k_whole; intro zqhp zqFp zqNp) | (refine' exc_set ?k1 ?k2 ?k3 ?k4 ?k5 ?k6 ?k7 ?k8 ?k9 ?k10 ?k11 ?k12 ?_; (case k1 => k_asm); (case k2 => k_asm); (case k3 => k_asm); (case k4 => first | (refine' InstAt.of_exc ?N ?h1 ?h2; (case N => k_asm); (case h1 => k_mem); (case h2 => k_mem)) | (refine' InstAt.of_exc0 ?N ?h1; (case N => k_asm); (case h1 => k_mem))); (case k5 => k_is); (case k6 => kernel_rfl); (case k7 => k_is); (case k8 => k_is); (case k9 => k_get); (case k10 => k_put); (case k11 => k_upd); (case k12 => exact Nat.le_of_ble_eq_true rfl); k_whole; intro zqhp zqFp zqNp))))
  k_with "call builtin:Exception.__init__" => ((k_here; k_dflt (refine' exc_init_call ?k1 ?k2 ?k3 ?k4 ?k5 ?k6 ?_; (case k1 => k_asm); (case k2 => k_asm); (case k3 => k_asm); (case k4 => first | (refine' InstAt.of_exc ?N ?h1 ?h2; (case N => k_asm); (case h1 => k_mem); (case h2 => k_mem)) | (refine' InstAt.of_exc0 ?N ?h1; (case N => k_asm); (case h1 => k_mem))); (case k5 => k_is); (case k6 => intro zqt; k_upd); k_whole; intro zqtp zqhp zqFp zqNp zql1; (try k_lt zql1))))
  k_with "call builtin:repr" => ((k_here; k_dflt (refine' repr_use ?k1 ?k2 ?k3 ?k4 ?k5 ?k6 ?k7 ?_; (case k1 => assumption); (case k2 => k_asm); (case k3 => k_asm); (case k4 => exact rfl); (case k5 => exact rfl); (case k6 => exact Nat.le_of_ble_eq_true rfl); (case k7 => exact Nat.le_of_ble_eq_true rfl); k_whole; intro zqhp zqup zqtkp zqFp zqNp)))
  k_with "BackIn" => ((k_dflt (refine' back_ ?k1 ?k2 ?k3 ?_; (case k1 => k_asm); (case k2 => k_asm); (case k3 => walk_at "mine drop"); k_whole; intro zqFp zqNp; (try dsimp only))))
  k_with "call ref" => ((k_here; k_dflt (refine wpAny_call ?_; refine' enter_in ?k1 ?k2 ?k3 ?k4 ?k5 ?k6 ?k7 ?k8 ?kB ?c2 ?c3 ?c4 ?c5 ?_; (case k1 => k_asm); (case k2 => k_asm); (case k3 => k_asm); (case k4 => exact Top.nolimit (by assumption)); (case k5 => k_is); (case k6 => k_is); (case k7 => exact Nat.le_of_ble_eq_true rfl); (case k8 => first | ((with_reducible show BindsTo _ _ ⟨[_], []⟩ _); first | exact BindsTo.of_eq (binds := [(_, _)]) rfl | exact binds_K (binds := [(_, _)]) (by k_in) rfl (by k_is) rfl rfl rfl) | ((with_reducible show BindsTo _ _ ⟨[_, _], []⟩ _); first | exact BindsTo.of_eq (binds := [(_, _), (_, _)]) rfl | exact binds_K (binds := [(_, _), (_, _)]) (by k_in) rfl (by k_is) rfl rfl rfl) | ((with_reducible show BindsTo _ _ ⟨[_, _, _], []⟩ _); first | exact BindsTo.of_eq (binds := [(_, _), (_, _), (_, _)]) rfl | exact binds_K (binds := [(_, _), (_, _), (_, _)]) (by k_in) rfl (by k_is) rfl rfl rfl) | ((with_reducible show BindsTo _ _ ⟨[_, _, _, _], []⟩ _); first | exact BindsTo.of_eq (binds := [(_, _), (_, _), (_, _), (_, _)]) rfl | exact binds_K (binds := [(_, _), (_, _), (_, _), (_, _)]) (by k_in) rfl (by k_is) rfl rfl rfl) | ((with_reducible show BindsTo _ _ ⟨[_, _, _, _, _], []⟩ _); first | exact BindsTo.of_eq (binds := [(_, _), (_, _), (_, _), (_, _), (_, _)]) rfl | exact binds_K (binds := [(_, _), (_, _), (_, _), (_, _), (_, _)]) (by k_in) rfl (by k_is) rfl rfl rfl)); (case c5 => decide); (case kB => exact locs rfl); (case c2 => exact rfl); (case c3 => exact rfl); (case c4 => exact rfl); k_whole; intro zqoLp zqLp zqhp zqtkp zqFp zqNp zql1 zqn1; (try k_lt zql1); (try (replace zqn1 := allNe_of zqn1; simp only [AllNe, and_true] at zqn1)); (try dsimp only); walk_at "mine texts")))
  k_with "call builtin:str.join" => ((k_here; (with_reducible show wpAny _ _ (call (Value.builtin "str.join") [Value.str _ _, Value.ref _]) _ _ _); k_dflt (refine join_listC (by is_list) (by repeat constructor) (by decide) (by (simp only [List.map_cons, List.map_nil, List.sum_cons, List.sum_nil, List.length_cons, List.length_nil]; omega)) ?_); intro zqtp zqkp))
  k_with "getMethod type:Exception" => ((k_here; refine' method_type ?F ?X ?m (by decide +kernel) ?e ?h ?_; (case F => k_asm); (case X => k_asm); (case m => exact meta_Exception); (case e => k_dflt k_is); (case h => k_handed)))
  k_with "compareOp IsNot" => ((k_here; k_dflt (refine isNot_none (by assumption) ?_)))
  k_with "call builtin:str.format" => ((k_here; k_dflt (refine' line_use ?k1 ?k2 ?k3 ?k4 ?k5 ?k6 ?k7 ?_; (case k1 => assumption); (case k2 => k_asm); (case k3 => k_asm); (case k4 => exact rfl); (case k5 => exact rfl); (case k6 => exact Nat.le_of_ble_eq_true rfl); (case k7 => exact Nat.le_of_ble_eq_true rfl); k_whole; intro zqhp zqup zqtkp zqFp zqNp)))
  k_with "call builtin:str.format" => ((k_here; (with_reducible show wpAny _ _ (call (Value.builtin "str.format") [Value.str _ _, _, _, _, _]) _ _ _); k_dflt (refine' fmt_use ?k1 ?k2 ?k3 ?k4 ?k5 ?_; (case k1 => k_asm); (case k2 => k_asm); (case k3 => exact ⟨rfl, rfl, Nat.le_of_ble_eq_true rfl, Nat.le_of_ble_eq_true rfl⟩); (case k4 => exact args_5 _ _ _ _ _); (case k5 => walk_at "mine fmt")); k_whole; intro zqhp zqup zqtkp zqFp zqNp))
  k_with "pyReprObj" => ((k_here; k_dflt (refine' reprObj_use ?k1 ?k2 ?k3 ?k4 ?k5 ?k6 ?k7 ?_; (case k1 => assumption); (case k2 => k_asm); (case k3 => k_asm); (case k4 => exact rfl); (case k5 => exact rfl); (case k6 => exact Nat.le_of_ble_eq_true rfl); (case k7 => exact Nat.le_of_ble_eq_true rfl); k_whole; intro zqhp zqup zqtkp zqFp zqNp)))
  k_with "call ref" => ((k_here; (with_reducible show wpAny _ _ (call (Value.ref 29) [Value.ref _, Value.str _ _]) _ _ _); k_dflt (refine' errIni ?k1 ?k2 ?k3 ?k4 ?k5 ?k6 ?k7 ?_; (case k1 => k_asm); (case k2 => k_asm); (case k3 => assumption); (case k4 => k_asm); (case k5 => k_updF); (case k6 => kernel_rfl); (case k7 => exact Nat.le_of_ble_eq_true rfl)); k_whole; intro zqdp zqtp zqhp zqtkp zqukp zqFp zqNp zql1 zql2 zql3; (try dsimp only at zqNp); (try k_lt zql1); (try k_lt zql2)))
  trivial
theorem conSn : ∀ {p : Program} {loose : List Str} {mean : ExcName → Option Value} {mg mb : Str → Option Value} (w : World) (s : Shared) (sec n : Value) (rs : Str) (R0 : Rep PySem.Challenge.rw_dm0028_04.prog w s.heap sec rs)
    (Q E : Value → Shared → Prop) (KX : (hz.heap_137 w.params).In s.heap) (T : Top p loose mean mg mb s.heap)
    (hQ : ∀ h' tk e d ta od u, Grow s.heap h' → ErrNew s.heap h' 60 e d ta od (Txt.join (Str.ofString "") [Str.ofString "Section ", rs, Str.ofString " already exists"]) u [("section", sec), ("source", .none), ("lineno", n)] [sec, .none, n] → Q (.ref e) { s with heap := h', toks := tk }),
    wpAny (model PySem.Challenge.rw_dm0028_04.prog w) (AD 600 2000) (call (.ref 60) [sec, .none, n]) Q E s := by
  w_top off
  k_fill
  intro p loose mean mg mb w s sec n rs R0 Q E KX T hQ
  obtain ⟨hh, g, dr, tk, os⟩ := s
  dsimp only at KX T R0 hQ
  have lq0 : (Str.ofString "While reading from ").length ≤ 200 := Nat.le_of_ble_eq_true rfl
  have lq1 : (Str.ofString ": section ").length ≤ 200 := Nat.le_of_ble_eq_true rfl
  have lq2 : (Str.ofString "Section ").length ≤ 200 := Nat.le_of_ble_eq_true rfl
  have lq3 : (Str.ofString " in section ").length ≤ 200 := Nat.le_of_ble_eq_true rfl
  have lq4 : (Str.ofString " already exists").length ≤ 200 := Nat.le_of_ble_eq_true rfl
  have O0 := R0.old
  have sq0 := R0.short
  w_strict (
  refine wpAny_call ?_
  refine exc_make (KX 60 _ (by k_is)) (by decide +kernel) (by decide +kernel) (by decide +kernel) (looks_specialIn KX (by k_is)) (looks_instIn KX (by k_is)) (looks_findIn KX (by k_is)) (fun self => bind_fn KX self (by k_is)) (by size_fits) ?_
  k_dflt (refine' enter_new (h₀ := hh) (binds := [("self", .ref (hh.objs.size + 1)), ("section", sec), ("source", .none), ("lineno", n)]) (news := [(hh.objs.size + 1, excObj 60 none hh.objs.size), (hh.objs.size, tupObj [sec, .none, n])]) ?k1 ?k2 KX T.nolimit ?k9 ?k5 ?k6 ?k7 ?k8 ?kB ?c2 ?c3 ?c4 ?c5 ?_; (case k5 => k_is); (case k6 => k_is); (case k7 => exact Nat.le_of_ble_eq_true rfl); (case k8 => first | exact BindsTo.of_eq rfl | exact binds_K (Frag.In.keeps KX (made_grow _ _ _)) rfl (by k_is) rfl rfl rfl); (case c5 => decide); (case kB => exact locs rfl); (case c2 => exact rfl); (case c3 => exact rfl); (case c4 => exact rfl); (case k1 => exact made_grow _ _ _); (case k2 => (simp; omega)); (case k9 => exact made_news _ _ _))
  intro L' h' tk' F' N' l1; k_lt l1
  walk_at "mine texts"
  k_steps
  refine ⟨rfl, ?_⟩
  (with_reducible rename Fr _ _ _ _ => Fz)
  (with_reducible rename News _ _ _ _ => Nz)
  refine hQ _ _ _ _ _ _ _ Fz.keep (err_close Nz (by k_mem) (by k_mem) (by k_mem) (Eq.trans (lookIn_dict _ _ _) (by k_get)) ?_)
  intro q hq
  simp only [List.mem_cons, List.not_mem_nil, or_false] at hq
  rcases hq with rfl | rfl | rfl <;> kernel_rfl)
theorem conSi : ∀ {p : Program} {loose : List Str} {mean : ExcName → Option Value} {mg mb : Str → Option Value} (w : World) (s : Shared) (sec src : Value) (hn : src ≠ .none) (n : Int) (nt : Tok) (ln : Str) (RL : Lines PySem.Challenge.rw_dm0028_04.prog w n ln) (rs : Str) (R0 : Rep PySem.Challenge.rw_dm0028_04.prog w s.heap sec rs) (rc : Str) (R1 : Rep PySem.Challenge.rw_dm0028_04.prog w s.heap src rc)
    (Q E : Value → Shared → Prop) (KX : (hz.heap_137 w.params).In s.heap) (T : Top p loose mean mg mb s.heap)
    (hQ : ∀ h' tk e d ta od u, Grow s.heap h' → ErrNew s.heap h' 60 e d ta od (Txt.join (Str.ofString "") [Str.ofString "While reading from ", rc, ln, Str.ofString ": section ", rs, Str.ofString " already exists"]) u [("section", sec), ("source", src), ("lineno", .int n nt)] [sec, src, .int n nt] → Q (.ref e) { s with heap := h', toks := tk }),
    wpAny (model PySem.Challenge.rw_dm0028_04.prog w) (AD 600 2000) (call (.ref 60) [sec, src, .int n nt]) Q E s := by
  w_top off
  k_fill
  intro p loose mean mg mb w s sec src hn n nt ln RL rs R0 rc R1 Q E KX T hQ
  obtain ⟨hh, g, dr, tk, os⟩ := s
  dsimp only at KX T R0 R1 hQ
  have lq0 : (Str.ofString "While reading from ").length ≤ 200 := Nat.le_of_ble_eq_true rfl
  have lq1 : (Str.ofString ": section ").length ≤ 200 := Nat.le_of_ble_eq_true rfl
  have lq2 : (Str.ofString "Section ").length ≤ 200 := Nat.le_of_ble_eq_true rfl
  have lq3 : (Str.ofString " in section ").length ≤ 200 := Nat.le_of_ble_eq_true rfl
  have lq4 : (Str.ofString " already exists").length ≤ 200 := Nat.le_of_ble_eq_true rfl
  have sqL := RL.short
  have O0 := R0.old
  have sq0 := R0.short
  have O1 := R1.old
  have sq1 := R1.short
  w_strict (
  refine wpAny_call ?_
  refine exc_make (KX 60 _ (by k_is)) (by decide +kernel) (by decide +kernel) (by decide +kernel) (looks_specialIn KX (by k_is)) (looks_instIn KX (by k_is)) (looks_findIn KX (by k_is)) (fun self => bind_fn KX self (by k_is)) (by size_fits) ?_
  k_dflt (refine' enter_new (h₀ := hh) (binds := [("self", .ref (hh.objs.size + 1)), ("section", sec), ("source", src), ("lineno", .int n nt)]) (news := [(hh.objs.size + 1, excObj 60 none hh.objs.size), (hh.objs.size, tupObj [sec, src, .int n nt])]) ?k1 ?k2 KX T.nolimit ?k9 ?k5 ?k6 ?k7 ?k8 ?kB ?c2 ?c3 ?c4 ?c5 ?_; (case k5 => k_is); (case k6 => k_is); (case k7 => exact Nat.le_of_ble_eq_true rfl); (case k8 => first | exact BindsTo.of_eq rfl | exact binds_K (Frag.In.keeps KX (made_grow _ _ _)) rfl (by k_is) rfl rfl rfl); (case c5 => decide); (case kB => exact locs rfl); (case c2 => exact rfl); (case c3 => exact rfl); (case c4 => exact rfl); (case k1 => exact made_grow _ _ _); (case k2 => (simp; omega)); (case k9 => exact made_news _ _ _))
  intro L' h' tk' F' N' l1; k_lt l1
  walk_at "mine texts"
  k_steps
  refine ⟨rfl, ?_⟩
  (with_reducible rename Fr _ _ _ _ => Fz)
  (with_reducible rename News _ _ _ _ => Nz)
  refine hQ _ _ _ _ _ _ _ Fz.keep (err_close Nz (by k_mem) (by k_mem) (by k_mem) (Eq.trans (lookIn_dict _ _ _) (by k_get)) ?_)
  intro q hq
  simp only [List.mem_cons, List.not_mem_nil, or_false] at hq
  rcases hq with rfl | rfl | rfl <;> kernel_rfl)
theorem conSo : ∀ {p : Program} {loose : List Str} {mean : ExcName → Option Value} {mg mb : Str → Option Value} (w : World) (s : Shared) (sec src : Value) (hn : src ≠ .none) (rs : Str) (R0 : Rep PySem.Challenge.rw_dm0028_04.prog w s.heap sec rs) (rc : Str) (R1 : Rep PySem.Challenge.rw_dm0028_04.prog w s.heap src rc)
    (Q E : Value → Shared → Prop) (KX : (hz.heap_137 w.params).In s.heap) (T : Top p loose mean mg mb s.heap)
    (hQ : ∀ h' tk e d ta od u, Grow s.heap h' → ErrNew s.heap h' 60 e d ta od (Txt.join (Str.ofString "") [Str.ofString "While reading from ", rc, Str.ofString ": section ", rs, Str.ofString " already exists"]) u [("section", sec), ("source", src), ("lineno", .none)] [sec, src, .none] → Q (.ref e) { s with heap := h', toks := tk }),
    wpAny (model PySem.Challenge.rw_dm0028_04.prog w) (AD 600 2000) (call (.ref 60) [sec, src, .none]) Q E s := by
  w_top off
  k_fill
  intro p loose mean mg mb w s sec src hn rs R0 rc R1 Q E KX T hQ
  obtain ⟨hh, g, dr, tk, os⟩ := s
  dsimp only at KX T R0 R1 hQ
  have lq0 : (Str.ofString "While reading from ").length ≤ 200 := Nat.le_of_ble_eq_true rfl
  have lq1 : (Str.ofString ": section ").length ≤ 200 := Nat.le_of_ble_eq_true rfl
  have lq2 : (Str.ofString "Section ").length ≤ 200 := Nat.le_of_ble_eq_true rfl
  have lq3 : (Str.ofString " in section ").length ≤ 200 := Nat.le_of_ble_eq_true rfl
  have lq4 : (Str.ofString " already exists").length ≤ 200 := Nat.le_of_ble_eq_true rfl
  have O0 := R0.old
  have sq0 := R0.short
  have O1 := R1.old
  have sq1 := R1.short
  w_strict (
  refine wpAny_call ?_
  refine exc_make (KX 60 _ (by k_is)) (by decide +kernel) (by decide +kernel) (by decide +kernel) (looks_specialIn KX (by k_is)) (looks_instIn KX (by k_is)) (looks_findIn KX (by k_is)) (fun self => bind_fn KX self (by k_is)) (by size_fits) ?_
  k_dflt (refine' enter_new (h₀ := hh) (binds := [("self", .ref (hh.objs.size + 1)), ("section", sec), ("source", src), ("lineno", .none)]) (news := [(hh.objs.size + 1, excObj 60 none hh.objs.size), (hh.objs.size, tupObj [sec, src, .none])]) ?k1 ?k2 KX T.nolimit ?k9 ?k5 ?k6 ?k7 ?k8 ?kB ?c2 ?c3 ?c4 ?c5 ?_; (case k5 => k_is); (case k6 => k_is); (case k7 => exact Nat.le_of_ble_eq_true rfl); (case k8 => first | exact BindsTo.of_eq rfl | exact binds_K (Frag.In.keeps KX (made_grow _ _ _)) rfl (by k_is) rfl rfl rfl); (case c5 => decide); (case kB => exact locs rfl); (case c2 => exact rfl); (case c3 => exact rfl); (case c4 => exact rfl); (case k1 => exact made_grow _ _ _); (case k2 => (simp; omega)); (case k9 => exact made_news _ _ _))
  intro L' h' tk' F' N' l1; k_lt l1
  walk_at "mine texts"
  k_steps
  refine ⟨rfl, ?_⟩
  (with_reducible rename Fr _ _ _ _ => Fz)
  (with_reducible rename News _ _ _ _ => Nz)
  refine hQ _ _ _ _ _ _ _ Fz.keep (err_close Nz (by k_mem) (by k_mem) (by k_mem) (Eq.trans (lookIn_dict _ _ _) (by k_get)) ?_)
  intro q hq
  simp only [List.mem_cons, List.not_mem_nil, or_false] at hq
  rcases hq with rfl | rfl | rfl <;> kernel_rfl)
end
section
theorem layKc04o1 : True := by
  k_with_none
  k_with "ne" => (with_reducible (first | exact ns1 | exact ns2 | exact qlt (by assumption) | exact qgt (by assumption) | exact qne (by assumption) | exact qen (by assumption) | exact rlt (by assumption) | exact rgt (by assumption) | exact rne (by assumption) | exact ren (by assumption) | exact qlt (And.right (by assumption)) | exact qgt (And.right (by assumption)) | exact qne (And.right (by assumption)) | exact qen (And.right (by assumption)) | exact rlt (And.right (by assumption)) | exact rgt (And.right (by assumption)) | exact rne (And.right (by assumption)) | exact ren (And.right (by assumption)) | exact qlt (And.right (And.right (by assumption))) | exact qgt (And.right (And.right (by assumption))) | exact qne (And.right (And.right (by assumption))) | exact qen (And.right (And.right (by assumption))) | exact rlt (And.right (And.right (by assumption))) | exact rgt (And.right (And.right (by assumption))) | exact rne (And.right (And.right (by assumption))) | exact ren (And.right (And.right (by assumption))) | exact qlt (And.right (And.right (And.right (by assumption)))) | exact qgt (And.right (And.right (And.right (by assumption)))) | exact qne (And.right (And.right (And.right (by assumption)))) | exact qen (And.right (And.right (And.right (by assumption)))) | exact rlt (And.right (And.right (And.right (by assumption)))) | exact rgt (And.right (And.right (And.right (by assumption)))) | exact rne (And.right (And.right (And.right (by assumption)))) | exact ren (And.right (And.right (And.right (by assumption)))) | exact qlt (And.right (And.right (And.right (And.right (by assumption))))) | exact qgt (And.right (And.right (And.right (And.right (by assumption))))) | exact qne (And.right (And.right (And.right (And.right (by assumption))))) | exact qen (And.right (And.right (And.right (And.right (by assumption))))) | exact rlt (And.right (And.right (And.right (And.right (by assumption))))) | exact rgt (And.right (And.right (And.right (And.right (by assumption))))) | exact rne (And.right (And.right (And.right (And.right (by assumption))))) | exact ren (And.right (And.right (And.right (And.right (by assumption))))) | exact qlt (And.right (And.right (And.right (And.right (And.right (by assumption)))))) | exact qgt (And.right (And.right (And.right (And.right (And.right (by assumption)))))) | exact qne (And.right (And.right (And.right (And.right (And.right (by assumption)))))) | exact qen (And.right (And.right (And.right (And.right (And.right (by assumption)))))) | exact rlt (And.right (And.right (And.right (And.right (And.right (by assumption)))))) | exact rgt (And.right (And.right (And.right (And.right (And.right (by assumption)))))) | exact rne (And.right (And.right (And.right (And.right (And.right (by assumption)))))) | exact ren (And.right (And.right (And.right (And.right (And.right (by assumption)))))) | exact qlt (And.right (And.right (And.right (And.right (And.right (And.right (by assumption))))))) | exact qgt (And.right (And.right (And.right (And.right (And.right (And.right (by assumption))))))) | exact qne (And.right (And.right (And.right (And.right (And.right (And.right (by assumption))))))) | exact qen (And.right (And.right (And.right (And.right (And.right (And.right (by assumption))))))) | exact rlt (And.right (And.right (And.right (And.right (And.right (And.right (by assumption))))))) | exact rgt (And.right (And.right (And.right (And.right (And.right (And.right (by assumption))))))) | exact rne (And.right (And.right (And.right (And.right (And.right (And.right (by assumption))))))) | exact ren (And.right (And.right (And.right (And.right (And.right (And.right (by assumption))))))) | exact qlt (And.right (And.right (And.right (And.right (And.right (And.right (And.right (by assumption)))))))) | exact qgt (And.right (And.right (And.right (And.right (And.right (And.right (And.right (by assumption)))))))) | exact qne (And.right (And.right (And.right (And.right (And.right (And.right (And.right (by assumption)))))))) | exact qen (And.right (And.right (And.right (And.right (And.right (And.right (And.right (by assumption)))))))) | exact rlt (And.right (And.right (And.right (And.right (And.right (And.right (And.right (by assumption)))))))) | exact rgt (And.right (And.right (And.right (And.right (And.right (And.right (And.right (by assumption)))))))) | exact rne (And.right (And.right (And.right (And.right (And.right (And.right (And.right (by assumption)))))))) | exact ren (And.right (And.right (And.right (And.right (And.right (And.right (And.right (by assumption)))))))) | exact qlt (And.right (And.right (And.right (And.right (And.right (And.right (And.right (And.right (by assumption))))))))) | exact qgt (And.right (And.right (And.right (And.right (And.right (And.right (And.right (And.right (by assumption))))))))) | exact qne (And.right (And.right (And.right (And.right (And.right (And.right (And.right (And.right (by assumption))))))))) | exact qen (And.right (And.right (And.right (And.right (And.right (And.right (And.right (And.right (by assumption))))))))) | exact rlt (And.right (And.right (And.right (And.right (And.right (And.right (And.right (And.right (by assumption))))))))) | exact rgt (And.right (And.right (And.right (And.right (And.right (And.right (And.right (And.right (by assumption))))))))) | exact rne (And.right (And.right (And.right (And.right (And.right (And.right (And.right (And.right (by assumption))))))))) | exact ren (And.right (And.right (And.right (And.right (And.right (And.right (And.right (And.right (by assumption))))))))) | exact qlt (And.right (And.right (And.right (And.right (And.right (And.right (And.right (And.right (And.right (by assumption)))))))))) | exact qgt (And.right (And.right (And.right (And.right (And.right (And.right (And.right (And.right (And.right (by assumption)))))))))) | exact qne (And.right (And.right (And.right (And.right (And.right (And.right (And.right (And.right (And.right (by assumption)))))))))) | exact qen (And.right (And.right (And.right (And.right (And.right (And.right (And.right (And.right (And.right (by assumption)))))))))) | exact rlt (And.right (And.right (And.right (And.right (And.right (And.right (And.right (And.right (And.right (by assumption)))))))))) | exact rgt (And.right (And.right (And.right (And.right (And.right (And.right (And.right (And.right (And.right (by assumption)))))))))) | exact rne (And.right (And.right (And.right (And.right (And.right (And.right (And.right (And.right (And.right (by assumption)))))))))) | exact ren (And.right (And.right (And.right (And.right (And.right (And.right (And.right (And.right (And.right (by assumption)))))))))) | exact qlt (And.right (And.right (And.right (And.right (And.right (And.right (And.right (And.right (And.right (And.right (by assumption))))))))))) | exact qgt (And.right (And.right (And.right (And.right (And.right (And.right (And.right (And.right (And.right (And.right (by assumption))))))))))) | exact qne (And.right (And.right (And.right (And.right (And.right (And.right (And.right (And.right (And.right (And.right (by assumption))))))))))) | exact qen (And.right (And.right (And.right (And.right (And.right (And.right (And.right (And.right (And.right (And.right (by assumption))))))))))) | exact rlt (And.right (And.right (And.right (And.right (And.right (And.right (And.right (And.right (And.right (And.right (by assumption))))))))))) | exact rgt (And.right (And.right (And.right (And.right (And.right (And.right (And.right (And.right (And.right (And.right (by assumption))))))))))) | exact rne (And.right (And.right (And.right (And.right (And.right (And.right (And.right (And.right (And.right (And.right (by assumption))))))))))) | exact ren (And.right (And.right (And.right (And.right (And.right (And.right (And.right (And.right (And.right (And.right (by assumption))))))))))) | exact qlt (And.right (And.right (And.right (And.right (And.right (And.right (And.right (And.right (And.right (And.right (And.right (by assumption)))))))))))) | exact qgt (And.right (And.right (And.right (And.right (And.right (And.right (And.right (And.right (And.right (And.right (And.right (by assumption)))))))))))) | exact qne (And.right (And.right (And.right (And.right (And.right (And.right (And.right (And.right (And.right (And.right (And.right (by assumption)))))))))))) | exact qen (And.right (And.right (And.right (And.right (And.right (And.right (And.right (And.right (And.right (And.right (And.right (by assumption)))))))))))) | exact rlt (And.right (And.right (And.right (And.right (And.right (And.right (And.right (And.right (And.right (And.right (And.right (by assumption)))))))))))) | exact rgt (And.right (And.right (And.right (And.right (And.right (And.right (And.right (And.right (And.right (And.right (And.right (by assumption)))))))))))) | exact rne (And.right (And.right (And.right (And.right (And.right (And.right (And.right (And.right (And.right (And.right (And.right (by assumption)))))))))))) | exact ren (And.right (And.right (And.right (And.right (And.right (And.right (And.right (And.right (And.right (And.right (And.right (by assumption)))))))))))) | exact qlt (And.right (And.right (And.right (And.right (And.right (And.right (And.right (And.right (And.right (And.right (And.right (And.right (by assumption))))))))))))) | exact qgt (And.right (And.right (And.right (And.right (And.right (And.right (And.right (And.right (And.right (And.right (And.right (And.right (by assumption))))))))))))) | exact qne (And.right (And.right (And.right (And.right (And.right (And.right (And.right (And.right (And.right (And.right (And.right (And.right (by assumption))))))))))))) | exact qen (And.right (And.right (And.right (And.right (And.right (And.right (And.right (And.right (And.right (And.right (And.right (And.right (by assumption))))))))))))) | exact rlt (And.right (And.right (And.right (And.right (And.right (And.right (And.right (And.right (And.right (And.right (And.right (And.right (by assumption))))))))))))) | exact rgt (And.right (And.right (And.right (And.right (And.right (And.right (And.right (And.right (And.right (And.right (And.right (And.right (by assumption))))))))))))) | exact rne (And.right (And.right (And.right (And.right (And.right (And.right (And.right (And.right (And.right (And.right (And.right (And.right (by assumption))))))))))))) | exact ren (And.right (And.right (And.right (And.right (And.right (And.right (And.right (And.right (And.right (And.right (And.right (And.right (by assumption))))))))))))) | exact qlt (And.right (And.right (And.right (And.right (And.right (And.right (And.right (And.right (And.right (And.right (And.right (And.right (And.right (by assumption)))))))))))))) | exact qgt (And.right (And.right (And.right (And.right (And.right (And.right (And.right (And.right (And.right (And.right (And.right (And.right (And.right (by assumption)))))))))))))) | exact qne (And.right (And.right (And.right (And.right (And.right (And.right (And.right (And.right (And.right (And.right (And.right (And.right (And.right (by assumption)))))))))))))) | exact qen (And.right (And.right (And.right (And.right (And.right (And.right (And.right (And.right (And.right (And.right (And.right (And.right (And.right (by assumption)))))))))))))) | exact rlt (And.right (And.right (And.right (And.right (And.right (And.right (And.right (And.right (And.right (And.right (And.right (And.right (And.right (by assumption)))))))))))))) | exact rgt (And.right (And.right (And.right (And.right (And.right (And.right (And.right (And.right (And.right (And.right (And.right (And.right (And.right (by assumption)))))))))))))) | exact rne (And.right (And.right (And.right (And.right (And.right (And.right (And.right (And.right (And.right (And.right (And.right (And.right (And.right (by assumption)))))))))))))) | exact ren (And.right (And.right (And.right (And.right (And.right (And.right (And.right (And.right (And.right (And.right (And.right (And.right (And.right (by assumption)))))))))))))) | exact qlt (And.right (And.right (And.right (And.right (And.right (And.right (And.right (And.right (And.right (And.right (And.right (And.right (And.right (And.right (by assumption))))))))))))))) | exact qgt (And.right (And.right (And.right (And.right (And.right (And.right (And.right (And.right (And.right (And.right (And.right (And.right (And.right (And.right (by assumption))))))))))))))) | exact qne (And.right (And.right (And.right (And.right (And.right (And.right (And.right (And.right (And.right (And.right (And.right (And.right (And.right (And.right (by assumption))))))))))))))) | exact qen (And.right (And.right (And.right (And.right (And.right (And.right (And.right (And.right (And.right (And.right (And.right (And.right (And.right (And.right (by assumption))))))))))))))) | exact rlt (And.right (And.right (And.right (And.right (And.right (And.right (And.right (And.right (And.right (And.right (And.right (And.right (And.right (And.right (by assumption))))))))))))))) | exact rgt (And.right (And.right (And.right (And.right (And.right (And.right (And.right (And.right (And.right (And.right (And.right (And.right (And.right (And.right (by assumption))))))))))))))) | exact rne (And.right (And.right (And.right (And.right (And.right (And.right (And.right (And.right (And.right (And.right (And.right (And.right (And.right (And.right (by assumption))))))))))))))) | exact ren (And.right (And.right (And.right (And.right (And.right (And.right (And.right (And.right (And.right (And.right (And.right (And.right (And.right (And.right (by assumption))))))))))))))) | exact qlt (And.right (And.right (And.right (And.right (And.right (And.right (And.right (And.right (And.right (And.right (And.right (And.right (And.right (And.right (And.right (by assumption)))))))))))))))) | exact qgt (And.right (And.right (And.right (And.right (And.right (And.right (And.right (And.right (And.right (And.right (And.right (And.right (And.right (And.right (And.right (by assumption)))))))))))))))) | exact qne (And.right (And.right (And.right (And.right (And.right (And.right (And.right (And.right (And.right (And.right (And.right (And.right (And.right (And.right (And.right (by assumption)))))))))))))))) | exact qen (And.right (And.right (And.right (And.right (And.right (And.right (And.right (And.right (And.right (And.right (And.right (And.right (And.right (And.right (And.right (by assumption)))))))))))))))) | exact rlt (And.right (And.right (And.right (And.right (And.right (And.right (And.right (And.right (And.right (And.right (And.right (And.right (And.right (And.right (And.right (by assumption)))))))))))))))) | exact rgt (And.right (And.right (And.right (And.right (And.right (And.right (And.right (And.right (And.right (And.right (And.right (And.right (And.right (And.right (And.right (by assumption)))))))))))))))) | exact rne (And.right (And.right (And.right (And.right (And.right (And.right (And.right (And.right (And.right (And.right (And.right (And.right (And.right (And.right (And.right (by assumption)))))))))))))))) | exact ren (And.right (And.right (And.right (And.right (And.right (And.right (And.right (And.right (And.right (And.right (And.right (And.right (And.right (And.right (And.right (by assumption))))))))))))))))))
  trivial
theorem layKc04o2 : True := by
  k_with "mine texts" => ((try dsimp only [← sx0, ← sx1, ← sx2, ← sx3, ← sx4, ← sx5, ← sx6, ← sx7, ← sx8, ← sx9, ← sx10, ← sx11, ← sx12, ← sx13, ← sx14, ← sx15, ← sx16, ← sx17, ← sx18, ← sx19, ← sx20, ← sx21, ← sx22, ← sx23, ← sx24, ← sx25, ← sx26, ← sx27, ← sx28, ← sx29, ← sx30, ← sx31, ← sx32, ← sx33, ← sx34, ← sx35, ← sx36, ← sx37, ← sx38, ← sx39, ← sx40, ← sx41, ← sx42, ← sx43, ← sx44, ← sx45, ← sx46, ← sx47, ← sx48, ← sx49, ← sx50, ← sx51, ← sx52, ← sx53, ← sx54, ← sx55, ← sx56, ← sx57, ← sx58, ← sx59, ← sx60, ← sx61, ← sx62, ← sx63, ← sx64, ← sx65, ← sx66, ← sx67, ← sx68, ← sx69, ← sx70, ← sx71, ← sx72, ← sx73, ← sx74, ← sx75, ← sx76, ← sx77, ← sx78, ← sx79, ← sx80]))
  k_with "mine drop" => (first | (refine' Drop.head ?a; (case a => k_all)) | (refine' Drop.tail ?a ?b; (case a => k_ne); (case b => walk_at "mine drop")))
  k_with "setAttr ref" => ((k_here; k_dflt (first | (refine' exc_set0 ?k1 ?k2 ?k3 ?k4 ?k5 ?k6 ?k7 ?k8 ?k9 ?_; (case k1 => k_asm); (case k2 => k_asm); (case k3 => k_asm); (case k4 => k_mem); (case k5 => k_is); (case k6 => kernel_rfl); (case k7 => k_is); (case k8 => k_is); (case k9 => intro zqd; k_upd); k_whole; intro zqdp zqhp zqFp zqNp zql1; (try k_lt zql1)) | (refine' exc_set_args ?k1 ?k2 ?k3 ?k4 ?k5 ?k6 ?k7 ?k8 ?k9 ?k10 ?_; (case k1 => k_asm); (case k2 => k_asm); (case k3 => k_asm); (case k4 => first | (refine' InstAt.of_exc ?N ?h1 ?h2; (case N => k_asm); (case h1 => k_mem); (case h2 => k_mem)) | (refine' InstAt.of_exc0 ?N ?h1; (case N => k_asm); (case h1 => k_mem))); (case k5 => exact isTup_of (by k_asm) (by k_mem)); (case k6 => k_is); (case k7 => kernel_rfl); (case k8 => k_is); (case k9 => k_is); (case k10 => k_upd); k_whole; intro zqhp zqFp zqNp) | (refine' exc_set ?k1 ?k2 ?k3 ?k4 ?k5 ?k6 ?k7 ?k8 ?k9 ?k10 ?k11 ?k12 ?_; (case k1 => k_asm); (case k2 => k_asm); (case k3 => k_asm); (case k4 => first | (refine' InstAt.of_exc ?N ?h1 ?h2; (case N => k_asm); (case h1 => k_mem); (case h2 => k_mem)) | (refine' InstAt.of_exc0 ?N ?h1; (case N => k_asm); (case h1 => k_mem))); (case k5 => k_is); (case k6 => kernel_rfl); (case k7 => k_is); (case k8 => k_is); (case k9 => k_get); (case k10 => k_put); (case k11 => k_upd); (case k12 => exact Nat.le_of_ble_eq_true rfl); k_whole; intro zqhp zqFp zqNp))))
  k_with "call builtin:Exception.__init__" => ((k_here; k_dflt (refine' exc_init_call ?k1 ?k2 ?k3 ?k4 ?k5 ?k6 ?_; (case k1 => k_asm); (case k2 => k_asm); (case k3 => k_asm); (case k4 => first | (refine' InstAt.of_exc ?N ?h1 ?h2; (case N => k_asm); (case h1 => k_mem); (case h2 => k_mem)) | (refine' InstAt.of_exc0 ?N ?h1; (case N => k_asm); (case h1 => k_mem))); (case k5 => k_is); (case k6 => intro zqt; k_upd); k_whole; intro zqtp zqhp zqFp zqNp zql1; (try k_lt zql1))))
  k_with "call builtin:repr" => ((k_here; k_dflt (refine' repr_use ?k1 ?k2 ?k3 ?k4 ?k5 ?k6 ?k7 ?_; (case k1 => assumption); (case k2 => k_asm); (case k3 => k_asm); (case k4 => exact rfl); (case k5 => exact rfl); (case k6 => exact Nat.le_of_ble_eq_true rfl); (case k7 => exact Nat.le_of_ble_eq_true rfl); k_whole; intro zqhp zqup zqtkp zqFp zqNp)))
  k_with "BackIn" => ((k_dflt (refine' back_ ?k1 ?k2 ?k3 ?_; (case k1 => k_asm); (case k2 => k_asm); (case k3 => walk_at "mine drop"); k_whole; intro zqFp zqNp; (try dsimp only))))
  k_with "call ref" => ((k_here; k_dflt (refine wpAny_call ?_; refine' enter_in ?k1 ?k2 ?k3 ?k4 ?k5 ?k6 ?k7 ?k8 ?kB ?c2 ?c3 ?c4 ?c5 ?_; (case k1 => k_asm); (case k2 => k_asm); (case k3 => k_asm); (case k4 => exact Top.nolimit (by assumption)); (case k5 => k_is); (case k6 => k_is); (case k7 => exact Nat.le_of_ble_eq_true rfl); (case k8 => first | ((with_reducible show BindsTo _ _ ⟨[_], []⟩ _); first | exact BindsTo.of_eq (binds := [(_, _)]) rfl | exact binds_K (binds := [(_, _)]) (by k_in) rfl (by k_is) rfl rfl rfl) | ((with_reducible show BindsTo _ _ ⟨[_, _], []⟩ _); first | exact BindsTo.of_eq (binds := [(_, _), (_, _)]) rfl | exact binds_K (binds := [(_, _), (_, _)]) (by k_in) rfl (by k_is) rfl rfl rfl) | ((with_reducible show BindsTo _ _ ⟨[_, _, _], []⟩ _); first | exact BindsTo.of_eq (binds := [(_, _), (_, _), (_, _)]) rfl | exact binds_K (binds := [(_, _), (_, _), (_, _)]) (by k_in) rfl (by k_is) rfl rfl rfl) | ((with_reducible show BindsTo _ _ ⟨[_, _, _, _], []⟩ _); first | exact BindsTo.of_eq (binds := [(_, _), (_, _), (_, _), (_, _)]) rfl | exact binds_K (binds := [(_, _), (_, _), (_, _), (_, _)]) (by k_in) rfl (by k_is) rfl rfl rfl) | ((with_reducible show BindsTo _ _ ⟨[_, _, _, _, _], []⟩ _); first | exact BindsTo.of_eq (binds := [(_, _), (_, _), (_, _), (_, _), (_, _)]) rfl | exact binds_K (binds := [(_, _), (_, _), (_, _), (_, _), (_, _)]) (by k_in) rfl (by k_is) rfl rfl rfl)); (case c5 => decide); (case kB => exact locs rfl); (case c2 => exact rfl); (case c3 => exact rfl); (case c4 => exact rfl); k_whole; intro zqoLp zqLp zqhp zqtkp zqFp zqNp zql1 zqn1; (try k_lt zql1); (try (replace zqn1 := allNe_of zqn1; simp only [AllNe, and_true] at zqn1)); (try dsimp only); walk_at "mine texts")))
  k_with "call builtin:str.join" => ((k_here; (with_reducible show wpAny _ _ (call (Value.builtin "str.join") [Value.str _ _, Value.ref _]) _ _ _); k_dflt (refine join_listC (by is_list) (by repeat constructor) (by decide) (by (simp only [List.map_cons, List.map_nil, List.sum_cons, List.sum_nil, List.length_cons, List.length_nil]; omega)) ?_); intro zqtp zqkp))
  k_with "getMethod type:Exception" => ((k_here; refine' method_type ?F ?X ?m (by decide +kernel) ?e ?h ?_; (case F => k_asm); (case X => k_asm); (case m => exact meta_Exception); (case e => k_dflt k_is); (case h => k_handed)))
  k_with "compareOp IsNot" => ((k_here; k_dflt (refine isNot_none (by assumption) ?_)))
  k_with "call builtin:str.format" => ((k_here; k_dflt (refine' line_use ?k1 ?k2 ?k3 ?k4 ?k5 ?k6 ?k7 ?_; (case k1 => assumption); (case k2 => k_asm); (case k3 => k_asm); (case k4 => exact rfl); (case k5 => exact rfl); (case k6 => exact Nat.le_of_ble_eq_true rfl); (case k7 => exact Nat.le_of_ble_eq_true rfl); k_whole; intro zqhp zqup zqtkp zqFp zqNp)))
  k_with "call builtin:str.format" => ((k_here; (with_reducible show wpAny _ _ (call (Value.builtin "str.format") [Value.str _ _, _, _, _, _]) _ _ _); k_dflt (refine' fmt_use ?k1 ?k2 ?k3 ?k4 ?k5 ?_; (case k1 => k_asm); (case k2 => k_asm); (case k3 => exact ⟨rfl, rfl, Nat.le_of_ble_eq_true rfl, Nat.le_of_ble_eq_true rfl⟩); (case k4 => exact args_5 _ _ _ _ _); (case k5 => walk_at "mine fmt")); k_whole; intro zqhp zqup zqtkp zqFp zqNp))
  k_with "pyReprObj" => ((k_here; k_dflt (refine' reprObj_use ?k1 ?k2 ?k3 ?k4 ?k5 ?k6 ?k7 ?_; (case k1 => assumption); (case k2 => k_asm); (case k3 => k_asm); (case k4 => exact rfl); (case k5 => exact rfl); (case k6 => exact Nat.le_of_ble_eq_true rfl); (case k7 => exact Nat.le_of_ble_eq_true rfl); k_whole; intro zqhp zqup zqtkp zqFp zqNp)))
  k_with "call ref" => ((k_here; (with_reducible show wpAny _ _ (call (Value.ref 29) [Value.ref _, Value.str _ _]) _ _ _); k_dflt (refine' errIni ?k1 ?k2 ?k3 ?k4 ?k5 ?k6 ?k7 ?_; (case k1 => k_asm); (case k2 => k_asm); (case k3 => assumption); (case k4 => k_asm); (case k5 => k_updF); (case k6 => kernel_rfl); (case k7 => exact Nat.le_of_ble_eq_true rfl)); k_whole; intro zqdp zqtp zqhp zqtkp zqukp zqFp zqNp zql1 zql2 zql3; (try dsimp only at zqNp); (try k_lt zql1); (try k_lt zql2)))
  trivial
theorem conOn : ∀ {p : Program} {loose : List Str} {mean : ExcName → Option Value} {mg mb : Str → Option Value} (w : World) (s : Shared) (sec opt n : Value) (rs : Str) (R0 : Rep PySem.Challenge.rw_dm0028_04.prog w s.heap sec rs) (ro : Str) (R1 : Rep PySem.Challenge.rw_dm0028_04.prog w s.heap opt ro)
    (Q E : Value → Shared → Prop) (KX : (hz.heap_137 w.params).In s.heap) (T : Top p loose mean mg mb s.heap)
    (hQ : ∀ h' tk e d ta od u, Grow s.heap h' → ErrNew s.heap h' 80 e d ta od (Txt.join (Str.ofString "") [Str.ofString "Option ", ro, Str.ofString " in section ", rs, Str.ofString " already exists"]) u [("section", sec), ("option", opt), ("source", .none), ("lineno", n)] [sec, opt, .none, n] → Q (.ref e) { s with heap := h', toks := tk }),
    wpAny (model PySem.Challenge.rw_dm0028_04.prog w) (AD 600 2000) (call (.ref 80) [sec, opt, .none, n]) Q E s := by
  w_top off
  k_fill
  intro p loose mean mg mb w s sec opt n rs R0 ro R1 Q E KX T hQ
  obtain ⟨hh, g, dr, tk, os⟩ := s
  dsimp only at KX T R0 R1 hQ
  have lq0 : (Str.ofString "While reading from ").length ≤ 200 := Nat.le_of_ble_eq_true rfl
  have lq1 : (Str.ofString ": option ").length ≤ 200 := Nat.le_of_ble_eq_true rfl
  have lq2 : (Str.ofString "Option ").length ≤ 200 := Nat.le_of_ble_eq_true rfl
  have lq3 : (Str.ofString " in section ").length ≤ 200 := Nat.le_of_ble_eq_true rfl
  have lq4 : (Str.ofString " already exists").length ≤ 200 := Nat.le_of_ble_eq_true rfl
  have O0 := R0.old
  have sq0 := R0.short
  have O1 := R1.old
  have sq1 := R1.short
  w_strict (
  refine wpAny_call ?_
  refine exc_make (KX 80 _ (by k_is)) (by decide +kernel) (by decide +kernel) (by decide +kernel) (looks_specialIn KX (by k_is)) (looks_instIn KX (by k_is)) (looks_findIn KX (by k_is)) (fun self => bind_fn KX self (by k_is)) (by size_fits) ?_
  k_dflt (refine' enter_new (h₀ := hh) (binds := [("self", .ref (hh.objs.size + 1)), ("section", sec), ("option", opt), ("source", .none), ("lineno", n)]) (news := [(hh.objs.size + 1, excObj 80 none hh.objs.size), (hh.objs.size, tupObj [sec, opt, .none, n])]) ?k1 ?k2 KX T.nolimit ?k9 ?k5 ?k6 ?k7 ?k8 ?kB ?c2 ?c3 ?c4 ?c5 ?_; (case k5 => k_is); (case k6 => k_is); (case k7 => exact Nat.le_of_ble_eq_true rfl); (case k8 => first | exact BindsTo.of_eq rfl | exact binds_K (Frag.In.keeps KX (made_grow _ _ _)) rfl (by k_is) rfl rfl rfl); (case c5 => decide); (case kB => exact locs rfl); (case c2 => exact rfl); (case c3 => exact rfl); (case c4 => exact rfl); (case k1 => exact made_grow _ _ _); (case k2 => (simp; omega)); (case k9 => exact made_news _ _ _))
  intro L' h' tk' F' N' l1; k_lt l1
  walk_at "mine texts"
  k_steps
  refine ⟨rfl, ?_⟩
  (with_reducible rename Fr _ _ _ _ => Fz)
  (with_reducible rename News _ _ _ _ => Nz)
  refine hQ _ _ _ _ _ _ _ Fz.keep (err_close Nz (by k_mem) (by k_mem) (by k_mem) (Eq.trans (lookIn_dict _ _ _) (by k_get)) ?_)
  intro q hq
  simp only [List.mem_cons, List.not_mem_nil, or_false] at hq
  rcases hq with rfl | rfl | rfl | rfl <;> kernel_rfl)
theorem conOi : ∀ {p : Program} {loose : List Str} {mean : ExcName → Option Value} {mg mb : Str → Option Value} (w : World) (s : Shared) (sec opt src : Value) (hn : src ≠ .none) (n : Int) (nt : Tok) (ln : Str) (RL : Lines PySem.Challenge.rw_dm0028_04.prog w n ln) (rs : Str) (R0 : Rep PySem.Challenge.rw_dm0028_04.prog w s.heap sec rs) (ro : Str) (R1 : Rep PySem.Challenge.rw_dm0028_04.prog w s.heap opt ro) (rc : Str) (R2 : Rep PySem.Challenge.rw_dm0028_04.prog w s.heap src rc)
    (Q E : Value → Shared → Prop) (KX : (hz.heap_137 w.params).In s.heap) (T : Top p loose mean mg mb s.heap)
    (hQ : ∀ h' tk e d ta od u, Grow s.heap h' → ErrNew s.heap h' 80 e d ta od (Txt.join (Str.ofString "") [Str.ofString "While reading from ", rc, ln, Str.ofString ": option ", ro, Str.ofString " in section ", rs, Str.ofString " already exists"]) u [("section", sec), ("option", opt), ("source", src), ("lineno", .int n nt)] [sec, opt, src, .int n nt] → Q (.ref e) { s with heap := h', toks := tk }),
    wpAny (model PySem.Challenge.rw_dm0028_04.prog w) (AD 600 2000) (call (.ref 80) [sec, opt, src, .int n nt]) Q E s := by
  w_top off
  k_fill
  intro p loose mean mg mb w s sec opt src hn n nt ln RL rs R0 ro R1 rc R2 Q E KX T hQ
  obtain ⟨hh, g, dr, tk, os⟩ := s
  dsimp only at KX T R0 R1 R2 hQ
  have lq0 : (Str.ofString "While reading from ").length ≤ 200 := Nat.le_of_ble_eq_true rfl
  have lq1 : (Str.ofString ": option ").length ≤ 200 := Nat.le_of_ble_eq_true rfl
  have lq2 : (Str.ofString "Option ").length ≤ 200 := Nat.le_of_ble_eq_true rfl
  have lq3 : (Str.ofString " in section ").length ≤ 200 := Nat.le_of_ble_eq_true rfl
  have lq4 : (Str.ofString " already exists").length ≤ 200 := Nat.le_of_ble_eq_true rfl
  have sqL := RL.short
  have O0 := R0.old
  have sq0 := R0.short
  have O1 := R1.old
  have sq1 := R1.short
  have O2 := R2.old
  have sq2 := R2.short
  w_strict (
  refine wpAny_call ?_
  refine exc_make (KX 80 _ (by k_is)) (by decide +kernel) (by decide +kernel) (by decide +kernel) (looks_specialIn KX (by k_is)) (looks_instIn KX (by k_is)) (looks_findIn KX (by k_is)) (fun self => bind_fn KX self (by k_is)) (by size_fits) ?_
  k_dflt (refine' enter_new (h₀ := hh) (binds := [("self", .ref (hh.objs.size + 1)), ("section", sec), ("option", opt), ("source", src), ("lineno", .int n nt)]) (news := [(hh.objs.size + 1, excObj 80 none hh.objs.size), (hh.objs.size, tupObj [sec, opt, src, .int n nt])]) ?k1 ?k2 KX T.nolimit ?k9 ?k5 ?k6 ?k7 ?k8 ?kB ?c2 ?c3 ?c4 ?c5 ?_; (case k5 => k_is); (case k6 => k_is); (case k7 => exact Nat.le_of_ble_eq_true rfl); (case k8 => first | exact BindsTo.of_eq rfl | exact binds_K (Frag.In.keeps KX (made_grow _ _ _)) rfl (by k_is) rfl rfl rfl); (case c5 => decide); (case kB => exact locs rfl); (case c2 => exact rfl); (case c3 => exact rfl); (case c4 => exact rfl); (case k1 => exact made_grow _ _ _); (case k2 => (simp; omega)); (case k9 => exact made_news _ _ _))
  intro L' h' tk' F' N' l1; k_lt l1
  walk_at "mine texts"
  k_steps
  refine ⟨rfl, ?_⟩
  (with_reducible rename Fr _ _ _ _ => Fz)
  (with_reducible rename News _ _ _ _ => Nz)
  refine hQ _ _ _ _ _ _ _ Fz.keep (err_close Nz (by k_mem) (by k_mem) (by k_mem) (Eq.trans (lookIn_dict _ _ _) (by k_get)) ?_)
  intro q hq
  simp only [List.mem_cons, List.not_mem_nil, or_false] at hq
  rcases hq with rfl | rfl | rfl | rfl <;> kernel_rfl)
theorem conOo : ∀ {p : Program} {loose : List Str} {mean : ExcName → Option Value} {mg mb : Str → Option Value} (w : World) (s : Shared) (sec opt src : Value) (hn : src ≠ .none) (rs : Str) (R0 : Rep PySem.Challenge.rw_dm0028_04.prog w s.heap sec rs) (ro : Str) (R1 : Rep PySem.Challenge.rw_dm0028_04.prog w s.heap opt ro) (rc : Str) (R2 : Rep PySem.Challenge.rw_dm0028_04.prog w s.heap src rc)
    (Q E : Value → Shared → Prop) (KX : (hz.heap_137 w.params).In s.heap) (T : Top p loose mean mg mb s.heap)
    (hQ : ∀ h' tk e d ta od u, Grow s.heap h' → ErrNew s.heap h' 80 e d ta od (Txt.join (Str.ofString "") [Str.ofString "While reading from ", rc, Str.ofString ": option ", ro, Str.ofString " in section ", rs, Str.ofString " already exists"]) u [("section", sec), ("option", opt), ("source", src), ("lineno", .none)] [sec, opt, src, .none] → Q (.ref e) { s with heap := h', toks := tk }),
    wpAny (model PySem.Challenge.rw_dm0028_04.prog w) (AD 600 2000) (call (.ref 80) [sec, opt, src, .none]) Q E s := by
  w_top off
  k_fill
  intro p loose mean mg mb w s sec opt src hn rs R0 ro R1 rc R2 Q E KX T hQ
  obtain ⟨hh, g, dr, tk, os⟩ := s
  dsimp only at KX T R0 R1 R2 hQ
  have lq0 : (Str.ofString "While reading from ").length ≤ 200 := Nat.le_of_ble_eq_true rfl
  have lq1 : (Str.ofString ": option ").length ≤ 200 := Nat.le_of_ble_eq_true rfl
  have lq2 : (Str.ofString "Option ").length ≤ 200 := Nat.le_of_ble_eq_true rfl
  have lq3 : (Str.ofString " in section ").length ≤ 200 := Nat.le_of_ble_eq_true rfl
  have lq4 : (Str.ofString " already exists").length ≤ 200 := Nat.le_of_ble_eq_true rfl
  have O0 := R0.old
  have sq0 := R0.short
  have O1 := R1.old
  have sq1 := R1.short
  have O2 := R2.old
  have sq2 := R2.short
  w_strict (
  refine wpAny_call ?_
  refine exc_make (KX 80 _ (by k_is)) (by decide +kernel) (by decide +kernel) (by decide +kernel) (looks_specialIn KX (by k_is)) (looks_instIn KX (by k_is)) (looks_findIn KX (by k_is)) (fun self => bind_fn KX self (by k_is)) (by size_fits) ?_
  k_dflt (refine' enter_new (h₀ := hh) (binds := [("self", .ref (hh.objs.size + 1)), ("section", sec), ("option", opt), ("source", src), ("lineno", .none)]) (news := [(hh.objs.size + 1, excObj 80 none hh.objs.size), (hh.objs.size, tupObj [sec, opt, src, .none])]) ?k1 ?k2 KX T.nolimit ?k9 ?k5 ?k6 ?k7 ?k8 ?kB ?c2 ?c3 ?c4 ?c5 ?_; (case k5 => k_is); (case k6 => k_is); (case k7 => exact Nat.le_of_ble_eq_true rfl); (case k8 => first | exact BindsTo.of_eq rfl | exact binds_K (Frag.In.keeps KX (made_grow _ _ _)) rfl (by k_is) rfl rfl rfl); (case c5 => decide); (case kB => exact locs rfl); (case c2 => exact rfl); (case c3 => exact rfl); (case c4 => exact rfl); (case k1 => exact made_grow _ _ _); (case k2 => (simp; omega)); (case k9 => exact made_news _ _ _))
  intro L' h' tk' F' N' l1; k_lt l1
  walk_at "mine texts"
  k_steps
  refine ⟨rfl, ?_⟩
  (with_reducible rename Fr _ _ _ _ => Fz)
  (with_reducible rename News _ _ _ _ => Nz)
  refine hQ _ _ _ _ _ _ _ Fz.keep (err_close Nz (by k_mem) (by k_mem) (by k_mem) (Eq.trans (lookIn_dict _ _ _) (by k_get)) ?_)
  intro q hq
  simp only [List.mem_cons, List.not_mem_nil, or_false] at hq
  rcases hq with rfl | rfl | rfl | rfl <;> kernel_rfl)
end
section
theorem lay3 : True := by
  k_with_none
  k_with "ne" => (with_reducible (first | exact ns1 | exact ns2 | exact qlt (by assumption) | exact qgt (by assumption) | exact qne (by assumption) | exact qen (by assumption) | exact rlt (by assumption) | exact rgt (by assumption) | exact rne (by assumption) | exact ren (by assumption) | exact qlt (And.right (by assumption)) | exact qgt (And.right (by assumption)) | exact qne (And.right (by assumption)) | exact qen (And.right (by assumption)) | exact rlt (And.right (by assumption)) | exact rgt (And.right (by assumption)) | exact rne (And.right (by assumption)) | exact ren (And.right (by assumption)) | exact qlt (And.right (And.right (by assumption))) | exact qgt (And.right (And.right (by assumption))) | exact qne (And.right (And.right (by assumption))) | exact qen (And.right (And.right (by assumption))) | exact rlt (And.right (And.right (by assumption))) | exact rgt (And.right (And.right (by assumption))) | exact rne (And.right (And.right (by assumption))) | exact ren (And.right (And.right (by assumption))) | exact qlt (And.right (And.right (And.right (by assumption)))) | exact qgt (And.right (And.right (And.right (by assumption)))) | exact qne (And.right (And.right (And.right (by assumption)))) | exact qen (And.right (And.right (And.right (by assumption)))) | exact rlt (And.right (And.right (And.right (by assumption)))) | exact rgt (And.right (And.right (And.right (by assumption)))) | exact rne (And.right (And.right (And.right (by assumption)))) | exact ren (And.right (And.right (And.right (by assumption)))) | exact qlt (And.right (And.right (And.right (And.right (by assumption))))) | exact qgt (And.right (And.right (And.right (And.right (by assumption))))) | exact qne (And.right (And.right (And.right (And.right (by assumption))))) | exact qen (And.right (And.right (And.right (And.right (by assumption))))) | exact rlt (And.right (And.right (And.right (And.right (by assumption))))) | exact rgt (And.right (And.right (And.right (And.right (by assumption))))) | exact rne (And.right (And.right (And.right (And.right (by assumption))))) | exact ren (And.right (And.right (And.right (And.right (by assumption))))) | exact qlt (And.right (And.right (And.right (And.right (And.right (by assumption)))))) | exact qgt (And.right (And.right (And.right (And.right (And.right (by assumption)))))) | exact qne (And.right (And.right (And.right (And.right (And.right (by assumption)))))) | exact qen (And.right (And.right (And.right (And.right (And.right (by assumption)))))) | exact rlt (And.right (And.right (And.right (And.right (And.right (by assumption)))))) | exact rgt (And.right (And.right (And.right (And.right (And.right (by assumption)))))) | exact rne (And.right (And.right (And.right (And.right (And.right (by assumption)))))) | exact ren (And.right (And.right (And.right (And.right (And.right (by assumption)))))) | exact qlt (And.right (And.right (And.right (And.right (And.right (And.right (by assumption))))))) | exact qgt (And.right (And.right (And.right (And.right (And.right (And.right (by assumption))))))) | exact qne (And.right (And.right (And.right (And.right (And.right (And.right (by assumption))))))) | exact qen (And.right (And.right (And.right (And.right (And.right (And.right (by assumption))))))) | exact rlt (And.right (And.right (And.right (And.right (And.right (And.right (by assumption))))))) | exact rgt (And.right (And.right (And.right (And.right (And.right (And.right (by assumption))))))) | exact rne (And.right (And.right (And.right (And.right (And.right (And.right (by assumption))))))) | exact ren (And.right (And.right (And.right (And.right (And.right (And.right (by assumption))))))) | exact qlt (And.right (And.right (And.right (And.right (And.right (And.right (And.right (by assumption)))))))) | exact qgt (And.right (And.right (And.right (And.right (And.right (And.right (And.right (by assumption)))))))) | exact qne (And.right (And.right (And.right (And.right (And.right (And.right (And.right (by assumption)))))))) | exact qen (And.right (And.right (And.right (And.right (And.right (And.right (And.right (by assumption)))))))) | exact rlt (And.right (And.right (And.right (And.right (And.right (And.right (And.right (by assumption)))))))) | exact rgt (And.right (And.right (And.right (And.right (And.right (And.right (And.right (by assumption)))))))) | exact rne (And.right (And.right (And.right (And.right (And.right (And.right (And.right (by assumption)))))))) | exact ren (And.right (And.right (And.right (And.right (And.right (And.right (And.right (by assumption)))))))) | exact qlt (And.right (And.right (And.right (And.right (And.right (And.right (And.right (And.right (by assumption))))))))) | exact qgt (And.right (And.right (And.right (And.right (And.right (And.right (And.right (And.right (by assumption))))))))) | exact qne (And.right (And.right (And.right (And.right (And.right (And.right (And.right (And.right (by assumption))))))))) | exact qen (And.right (And.right (And.right (And.right (And.right (And.right (And.right (And.right (by assumption))))))))) | exact rlt (And.right (And.right (And.right (And.right (And.right (And.right (And.right (And.right (by assumption))))))))) | exact rgt (And.right (And.right (And.right (And.right (And.right (And.right (And.right (And.right (by assumption))))))))) | exact rne (And.right (And.right (And.right (And.right (And.right (And.right (And.right (And.right (by assumption))))))))) | exact ren (And.right (And.right (And.right (And.right (And.right (And.right (And.right (And.right (by assumption))))))))) | exact qlt (And.right (And.right (And.right (And.right (And.right (And.right (And.right (And.right (And.right (by assumption)))))))))) | exact qgt (And.right (And.right (And.right (And.right (And.right (And.right (And.right (And.right (And.right (by assumption)))))))))) | exact qne (And.right (And.right (And.right (And.right (And.right (And.right (And.right (And.right (And.right (by assumption)))))))))) | exact qen (And.right (And.right (And.right (And.right (And.right (And.right (And.right (And.right (And.right (by assumption)))))))))) | exact rlt (And.right (And.right (And.right (And.right (And.right (And.right (And.right (And.right (And.right (by assumption)))))))))) | exact rgt (And.right (And.right (And.right (And.right (And.right (And.right (And.right (And.right (And.right (by assumption)))))))))) | exact rne (And.right (And.right (And.right (And.right (And.right (And.right (And.right (And.right (And.right (by assumption)))))))))) | exact ren (And.right (And.right (And.right (And.right (And.right (And.right (And.right (And.right (And.right (by assumption)))))))))) | exact qlt (And.right (And.right (And.right (And.right (And.right (And.right (And.right (And.right (And.right (And.right (by assumption))))))))))) | exact qgt (And.right (And.right (And.right (And.right (And.right (And.right (And.right (And.right (And.right (And.right (by assumption))))))))))) | exact qne (And.right (And.right (And.right (And.right (And.right (And.right (And.right (And.right (And.right (And.right (by assumption))))))))))) | exact qen (And.right (And.right (And.right (And.right (And.right (And.right (And.right (And.right (And.right (And.right (by assumption))))))))))) | exact rlt (And.right (And.right (And.right (And.right (And.right (And.right (And.right (And.right (And.right (And.right (by assumption))))))))))) | exact rgt (And.right (And.right (And.right (And.right (And.right (And.right (And.right (And.right (And.right (And.right (by assumption))))))))))) | exact rne (And.right (And.right (And.right (And.right (And.right (And.right (And.right (And.right (And.right (And.right (by assumption))))))))))) | exact ren (And.right (And.right (And.right (And.right (And.right (And.right (And.right (And.right (And.right (And.right (by assumption))))))))))) | exact qlt (And.right (And.right (And.right (And.right (And.right (And.right (And.right (And.right (And.right (And.right (And.right (by assumption)))))))))))) | exact qgt (And.right (And.right (And.right (And.right (And.right (And.right (And.right (And.right (And.right (And.right (And.right (by assumption)))))))))))) | exact qne (And.right (And.right (And.right (And.right (And.right (And.right (And.right (And.right (And.right (And.right (And.right (by assumption)))))))))))) | exact qen (And.right (And.right (And.right (And.right (And.right (And.right (And.right (And.right (And.right (And.right (And.right (by assumption)))))))))))) | exact rlt (And.right (And.right (And.right (And.right (And.right (And.right (And.right (And.right (And.right (And.right (And.right (by assumption)))))))))))) | exact rgt (And.right (And.right (And.right (And.right (And.right (And.right (And.right (And.right (And.right (And.right (And.right (by assumption)))))))))))) | exact rne (And.right (And.right (And.right (And.right (And.right (And.right (And.right (And.right (And.right (And.right (And.right (by assumption)))))))))))) | exact ren (And.right (And.right (And.right (And.right (And.right (And.right (And.right (And.right (And.right (And.right (And.right (by assumption)))))))))))) | exact qlt (And.right (And.right (And.right (And.right (And.right (And.right (And.right (And.right (And.right (And.right (And.right (And.right (by assumption))))))))))))) | exact qgt (And.right (And.right (And.right (And.right (And.right (And.right (And.right (And.right (And.right (And.right (And.right (And.right (by assumption))))))))))))) | exact qne (And.right (And.right (And.right (And.right (And.right (And.right (And.right (And.right (And.right (And.right (And.right (And.right (by assumption))))))))))))) | exact qen (And.right (And.right (And.right (And.right (And.right (And.right (And.right (And.right (And.right (And.right (And.right (And.right (by assumption))))))))))))) | exact rlt (And.right (And.right (And.right (And.right (And.right (And.right (And.right (And.right (And.right (And.right (And.right (And.right (by assumption))))))))))))) | exact rgt (And.right (And.right (And.right (And.right (And.right (And.right (And.right (And.right (And.right (And.right (And.right (And.right (by assumption))))))))))))) | exact rne (And.right (And.right (And.right (And.right (And.right (And.right (And.right (And.right (And.right (And.right (And.right (And.right (by assumption))))))))))))) | exact ren (And.right (And.right (And.right (And.right (And.right (And.right (And.right (And.right (And.right (And.right (And.right (And.right (by assumption))))))))))))) | exact qlt (And.right (And.right (And.right (And.right (And.right (And.right (And.right (And.right (And.right (And.right (And.right (And.right (And.right (by assumption)))))))))))))) | exact qgt (And.right (And.right (And.right (And.right (And.right (And.right (And.right (And.right (And.right (And.right (And.right (And.right (And.right (by assumption)))))))))))))) | exact qne (And.right (And.right (And.right (And.right (And.right (And.right (And.right (And.right (And.right (And.right (And.right (And.right (And.right (by assumption)))))))))))))) | exact qen (And.right (And.right (And.right (And.right (And.right (And.right (And.right (And.right (And.right (And.right (And.right (And.right (And.right (by assumption)))))))))))))) | exact rlt (And.right (And.right (And.right (And.right (And.right (And.right (And.right (And.right (And.right (And.right (And.right (And.right (And.right (by assumption)))))))))))))) | exact rgt (And.right (And.right (And.right (And.right (And.right (And.right (And.right (And.right (And.right (And.right (And.right (And.right (And.right (by assumption)))))))))))))) | exact rne (And.right (And.right (And.right (And.right (And.right (And.right (And.right (And.right (And.right (And.right (And.right (And.right (And.right (by assumption)))))))))))))) | exact ren (And.right (And.right (And.right (And.right (And.right (And.right (And.right (And.right (And.right (And.right (And.right (And.right (And.right (by assumption)))))))))))))) | exact qlt (And.right (And.right (And.right (And.right (And.right (And.right (And.right (And.right (And.right (And.right (And.right (And.right (And.right (And.right (by assumption))))))))))))))) | exact qgt (And.right (And.right (And.right (And.right (And.right (And.right (And.right (And.right (And.right (And.right (And.right (And.right (And.right (And.right (by assumption))))))))))))))) | exact qne (And.right (And.right (And.right (And.right (And.right (And.right (And.right (And.right (And.right (And.right (And.right (And.right (And.right (And.right (by assumption))))))))))))))) | exact qen (And.right (And.right (And.right (And.right (And.right (And.right (And.right (And.right (And.right (And.right (And.right (And.right (And.right (And.right (by assumption))))))))))))))) | exact rlt (And.right (And.right (And.right (And.right (And.right (And.right (And.right (And.right (And.right (And.right (And.right (And.right (And.right (And.right (by assumption))))))))))))))) | exact rgt (And.right (And.right (And.right (And.right (And.right (And.right (And.right (And.right (And.right (And.right (And.right (And.right (And.right (And.right (by assumption))))))))))))))) | exact rne (And.right (And.right (And.right (And.right (And.right (And.right (And.right (And.right (And.right (And.right (And.right (And.right (And.right (And.right (by assumption))))))))))))))) | exact ren (And.right (And.right (And.right (And.right (And.right (And.right (And.right (And.right (And.right (And.right (And.right (And.right (And.right (And.right (by assumption))))))))))))))) | exact qlt (And.right (And.right (And.right (And.right (And.right (And.right (And.right (And.right (And.right (And.right (And.right (And.right (And.right (And.right (And.right (by assumption)))))))))))))))) | exact qgt (And.right (And.right (And.right (And.right (And.right (And.right (And.right (And.right (And.right (And.right (And.right (And.right (And.right (And.right (And.right (by assumption)))))))))))))))) | exact qne (And.right (And.right (And.right (And.right (And.right (And.right (And.right (And.right (And.right (And.right (And.right (And.right (And.right (And.right (And.right (by assumption)))))))))))))))) | exact qen (And.right (And.right (And.right (And.right (And.right (And.right (And.right (And.right (And.right (And.right (And.right (And.right (And.right (And.right (And.right (by assumption)))))))))))))))) | exact rlt (And.right (And.right (And.right (And.right (And.right (And.right (And.right (And.right (And.right (And.right (And.right (And.right (And.right (And.right (And.right (by assumption)))))))))))))))) | exact rgt (And.right (And.right (And.right (And.right (And.right (And.right (And.right (And.right (And.right (And.right (And.right (And.right (And.right (And.right (And.right (by assumption)))))))))))))))) | exact rne (And.right (And.right (And.right (And.right (And.right (And.right (And.right (And.right (And.right (And.right (And.right (And.right (And.right (And.right (And.right (by assumption)))))))))))))))) | exact ren (And.right (And.right (And.right (And.right (And.right (And.right (And.right (And.right (And.right (And.right (And.right (And.right (And.right (And.right (And.right (by assumption))))))))))))))))))
  trivial
theorem lay4 : True := by
  k_with "mine texts" => ((try dsimp only [← sx0, ← sx1, ← sx2, ← sx3, ← sx4, ← sx5, ← sx6, ← sx7, ← sx8, ← sx9, ← sx10, ← sx11, ← sx12, ← sx13, ← sx14, ← sx15, ← sx16, ← sx17, ← sx18, ← sx19, ← sx20, ← sx21, ← sx22, ← sx23, ← sx24, ← sx25, ← sx26, ← sx27, ← sx28, ← sx29, ← sx30, ← sx31, ← sx32, ← sx33, ← sx34, ← sx35, ← sx36, ← sx37, ← sx38, ← sx39, ← sx40, ← sx41, ← sx42, ← sx43, ← sx44, ← sx45, ← sx46, ← sx47, ← sx48, ← sx49, ← sx50, ← sx51, ← sx52, ← sx53, ← sx54, ← sx55, ← sx56, ← sx57, ← sx58, ← sx59, ← sx60, ← sx61, ← sx62, ← sx63, ← sx64, ← sx65, ← sx66, ← sx67, ← sx68, ← sx69, ← sx70, ← sx71, ← sx72, ← sx73, ← sx74, ← sx75, ← sx76, ← sx77, ← sx78, ← sx79, ← sx80]))
  k_with "mine drop" => (first | (refine' Drop.head ?a; (case a => k_all)) | (refine' Drop.tail ?a ?b; (case a => k_ne); (case b => walk_at "mine drop")))
  k_with "setAttr ref" => ((k_here; k_dflt (first | (refine' exc_set0 ?k1 ?k2 ?k3 ?k4 ?k5 ?k6 ?k7 ?k8 ?k9 ?_; (case k1 => k_asm); (case k2 => k_asm); (case k3 => k_asm); (case k4 => k_mem); (case k5 => k_is); (case k6 => kernel_rfl); (case k7 => k_is); (case k8 => k_is); (case k9 => intro zqd; k_upd); k_whole; intro zqdp zqhp zqFp zqNp zql1; (try k_lt zql1)) | (refine' exc_set_args ?k1 ?k2 ?k3 ?k4 ?k5 ?k6 ?k7 ?k8 ?k9 ?k10 ?_; (case k1 => k_asm); (case k2 => k_asm); (case k3 => k_asm); (case k4 => first | (refine' InstAt.of_exc ?N ?h1 ?h2; (case N => k_asm); (case h1 => k_mem); (case h2 => k_mem)) | (refine' InstAt.of_exc0 ?N ?h1; (case N => k_asm); (case h1 => k_mem))); (case k5 => exact isTup_of (by k_asm) (by k_mem)); (case k6 => k_is); (case k7 => kernel_rfl); (case k8 => k_is); (case k9 => k_is); (case k10 => k_upd); k_whole; intro zqhp zqFp zqNp) | (refine' exc_set ?k1 ?k2 ?k3 ?k4 ?k5 ?k6 ?k7 ?k8 ?k9 ?k10 ?k11 ?k12 ?_; (case k1 => k_asm); (case k2 => k_asm); (case k3 => k_asm); (case k4 => first | (refine' InstAt.of_exc ?N ?h1 ?h2; (case N => k_asm); (case h1 => k_mem); (case h2 => k_mem)) | (refine' InstAt.of_exc0 ?N ?h1; (case N => k_asm); (case h1 => k_mem))); (case k5 => k_is); (case k6 => kernel_rfl); (case k7 => k_is); (case k8 => k_is); (case k9 => k_get); (case k10 => k_put); (case k11 => k_upd); (case k12 => exact Nat.le_of_ble_eq_true rfl); k_whole; intro zqhp zqFp zqNp))))
  k_with "call builtin:Exception.__init__" => ((k_here; k_dflt (refine' exc_init_call ?k1 ?k2 ?k3 ?k4 ?k5 ?k6 ?_; (case k1 => k_asm); (case k2 => k_asm); (case k3 => k_asm); (case k4 => first | (refine' InstAt.of_exc ?N ?h1 ?h2; (case N => k_asm); (case h1 => k_mem); (case h2 => k_mem)) | (refine' InstAt.of_exc0 ?N ?h1; (case N => k_asm); (case h1 => k_mem))); (case k5 => k_is); (case k6 => intro zqt; k_upd); k_whole; intro zqtp zqhp zqFp zqNp zql1; (try k_lt zql1))))
  k_with "call builtin:repr" => ((k_here; k_dflt (refine' repr_use ?k1 ?k2 ?k3 ?k4 ?k5 ?k6 ?k7 ?_; (case k1 => assumption); (case k2 => k_asm); (case k3 => k_asm); (case k4 => exact rfl); (case k5 => exact rfl); (case k6 => exact Nat.le_of_ble_eq_true rfl); (case k7 => exact Nat.le_of_ble_eq_true rfl); k_whole; intro zqhp zqup zqtkp zqFp zqNp)))
  k_with "BackIn" => ((k_dflt (refine' back_ ?k1 ?k2 ?k3 ?_; (case k1 => k_asm); (case k2 => k_asm); (case k3 => walk_at "mine drop"); k_whole; intro zqFp zqNp; (try dsimp only))))
  k_with "call ref" => ((k_here; k_dflt (refine wpAny_call ?_; refine' enter_in ?k1 ?k2 ?k3 ?k4 ?k5 ?k6 ?k7 ?k8 ?kB ?c2 ?c3 ?c4 ?c5 ?_; (case k1 => k_asm); (case k2 => k_asm); (case k3 => k_asm); (case k4 => exact Top.nolimit (by assumption)); (case k5 => k_is); (case k6 => k_is); (case k7 => exact Nat.le_of_ble_eq_true rfl); (case k8 => first | ((with_reducible show BindsTo _ _ ⟨[_], []⟩ _); first | exact BindsTo.of_eq (binds := [(_, _)]) rfl | exact binds_K (binds := [(_, _)]) (by k_in) rfl (by k_is) rfl rfl rfl) | ((with_reducible show BindsTo _ _ ⟨[_, _], []⟩ _); first | exact BindsTo.of_eq (binds := [(_, _), (_, _)]) rfl | exact binds_K (binds := [(_, _), (_, _)]) (by k_in) rfl (by k_is) rfl rfl rfl) | ((with_reducible show BindsTo _ _ ⟨[_, _, _], []⟩ _); first | exact BindsTo.of_eq (binds := [(_, _), (_, _), (_, _)]) rfl | exact binds_K (binds := [(_, _), (_, _), (_, _)]) (by k_in) rfl (by k_is) rfl rfl rfl) | ((with_reducible show BindsTo _ _ ⟨[_, _, _, _], []⟩ _); first | exact BindsTo.of_eq (binds := [(_, _), (_, _), (_, _), (_, _)]) rfl | exact binds_K (binds := [(_, _), (_, _), (_, _), (_, _)]) (by k_in) rfl (by k_is) rfl rfl rfl) | ((with_reducible show BindsTo _ _ ⟨[_, _, _, _, _], []⟩ _); first | exact BindsTo.of_eq (binds := [(_, _), (_, _), (_, _), (_, _), (_, _)]) rfl | exact binds_K (binds := [(_, _), (_, _), (_, _), (_, _), (_, _)]) (by k_in) rfl (by k_is) rfl rfl rfl)); (case c5 => decide); (case kB => exact locs rfl); (case c2 => exact rfl); (case c3 => exact rfl); (case c4 => exact rfl); k_whole; intro zqoLp zqLp zqhp zqtkp zqFp zqNp zql1 zqn1; (try k_lt zql1); (try (replace zqn1 := allNe_of zqn1; simp only [AllNe, and_true] at zqn1)); (try dsimp only); walk_at "mine texts")))
  k_with "call builtin:str.join" => ((k_here; (with_reducible show wpAny _ _ (call (Value.builtin "str.join") [Value.str _ _, Value.ref _]) _ _ _); k_dflt (refine join_listC (by is_list) (by repeat constructor) (by decide) (by (simp only [List.map_cons, List.map_nil, List.sum_cons, List.sum_nil, List.length_cons, List.length_nil]; omega)) ?_); intro zqtp zqkp))
  k_with "getMethod type:Exception" => ((k_here; refine' method_type ?F ?X ?m (by decide +kernel) ?e ?h ?_; (case F => k_asm); (case X => k_asm); (case m => exact meta_Exception); (case e => k_dflt k_is); (case h => k_handed)))
  k_with "compareOp IsNot" => ((k_here; k_dflt (refine isNot_none (by assumption) ?_)))
  k_with "call builtin:str.format" => ((k_here; k_dflt (refine' line_use ?k1 ?k2 ?k3 ?k4 ?k5 ?k6 ?k7 ?_; (case k1 => assumption); (case k2 => k_asm); (case k3 => k_asm); (case k4 => exact rfl); (case k5 => exact rfl); (case k6 => exact Nat.le_of_ble_eq_true rfl); (case k7 => exact Nat.le_of_ble_eq_true rfl); k_whole; intro zqhp zqup zqtkp zqFp zqNp)))
  k_with "call builtin:str.format" => ((k_here; (with_reducible show wpAny _ _ (call (Value.builtin "str.format") [Value.str _ _, _, _, _, _]) _ _ _); k_dflt (refine' fmt_use ?k1 ?k2 ?k3 ?k4 ?k5 ?_; (case k1 => k_asm); (case k2 => k_asm); (case k3 => exact ⟨rfl, rfl, Nat.le_of_ble_eq_true rfl, Nat.le_of_ble_eq_true rfl⟩); (case k4 => exact args_5 _ _ _ _ _); (case k5 => walk_at "mine fmt")); k_whole; intro zqhp zqup zqtkp zqFp zqNp))
  k_with "pyReprObj" => ((k_here; k_dflt (refine' reprObj_use ?k1 ?k2 ?k3 ?k4 ?k5 ?k6 ?k7 ?_; (case k1 => assumption); (case k2 => k_asm); (case k3 => k_asm); (case k4 => exact rfl); (case k5 => exact rfl); (case k6 => exact Nat.le_of_ble_eq_true rfl); (case k7 => exact Nat.le_of_ble_eq_true rfl); k_whole; intro zqhp zqup zqtkp zqFp zqNp)))
  trivial
theorem name04 : ∀ {p : Program} {loose : List Str} {mean : ExcName → Option Value} {mg mb : Str → Option Value} (w : World) (s : Shared) (x : Str) (t : Tok) (i : Int) (ti : Tok) (y : Str) (e : Int) (hN : NameAt x i y e)
    (Q E : Value → Shared → Prop) (KX : (hz.heap_137 w.params).In s.heap) (T : Top p loose mean mg mb s.heap)
    (hQ : ∀ h' tk (a : Addr) (us : Tok × Tok), Grow s.heap h' → h'.get? a = some (listOf #[.str y us.1, .int (e + 1) us.2] 0) → s.heap.get? a = none → Q (.ref a) { s with heap := h', toks := tk }),
    wpAny (model PySem.Challenge.rw_dm0028_04.prog w) (AD 600 2000) (call (.ref 89) [.str x t, .int i ti]) Q E s := by
  w_top off
  k_fill
  intro p loose mean mg mb w s x t i ti y e hN Q E KX T hQ
  obtain ⟨hh, g, dr, tk, os⟩ := s
  dsimp only at KX T  hQ
  w_strict (
  refine wpAny_call ?_
  k_dflt (refine' enter_new (h₀ := hh) (binds := [("words", .str x t), ("at", .int i ti)]) (news := []) ?k1 ?k2 KX T.nolimit ?k9 ?k5 ?k6 ?k7 ?k8 ?kB ?c2 ?c3 ?c4 ?c5 ?_; (case k5 => k_is); (case k6 => k_is); (case k7 => exact Nat.le_of_ble_eq_true rfl); (case k8 => first | exact BindsTo.of_eq rfl | exact binds_K KX rfl (by k_is) rfl rfl rfl); (case c5 => decide); (case kB => exact locs rfl); (case c2 => exact rfl); (case c3 => exact rfl); (case c4 => exact rfl); (case k1 => exact fun _ _ e => e); (case k2 => exact Nat.le_refl _); (case k9 => exact List.forall_mem_nil _))
  intro L' h' tk' F' N' l1
  walk_at "mine texts"
  obtain ⟨hl, hi, hi2, h1, h2, h3, h5, h4⟩ := hN
  subst h2
  subst h4
  k_steps
  · rename (_ != _) = true => hz1
    rw [h1] at hz1
    exact absurd hz1 (by decide)
  · (with_reducible rename Fr _ _ _ _ => Fz)
    (with_reducible rename News _ _ _ _ => Nz)
    exact hQ _ _ _ (_, _) Fz.keep (Nz _ (.head _)).1 (Nz _ (.head _)).2.2)
end
section
theorem lay5 : True := by
  k_with_none
  k_with "ne" => (with_reducible (first | exact ns1 | exact ns2 | exact qlt (by assumption) | exact qgt (by assumption) | exact qne (by assumption) | exact qen (by assumption) | exact rlt (by assumption) | exact rgt (by assumption) | exact rne (by assumption) | exact ren (by assumption) | exact qlt (And.right (by assumption)) | exact qgt (And.right (by assumption)) | exact qne (And.right (by assumption)) | exact qen (And.right (by assumption)) | exact rlt (And.right (by assumption)) | exact rgt (And.right (by assumption)) | exact rne (And.right (by assumption)) | exact ren (And.right (by assumption)) | exact qlt (And.right (And.right (by assumption))) | exact qgt (And.right (And.right (by assumption))) | exact qne (And.right (And.right (by assumption))) | exact qen (And.right (And.right (by assumption))) | exact rlt (And.right (And.right (by assumption))) | exact rgt (And.right (And.right (by assumption))) | exact rne (And.right (And.right (by assumption))) | exact ren (And.right (And.right (by assumption))) | exact qlt (And.right (And.right (And.right (by assumption)))) | exact qgt (And.right (And.right (And.right (by assumption)))) | exact qne (And.right (And.right (And.right (by assumption)))) | exact qen (And.right (And.right (And.right (by assumption)))) | exact rlt (And.right (And.right (And.right (by assumption)))) | exact rgt (And.right (And.right (And.right (by assumption)))) | exact rne (And.right (And.right (And.right (by assumption)))) | exact ren (And.right (And.right (And.right (by assumption)))) | exact qlt (And.right (And.right (And.right (And.right (by assumption))))) | exact qgt (And.right (And.right (And.right (And.right (by assumption))))) | exact qne (And.right (And.right (And.right (And.right (by assumption))))) | exact qen (And.right (And.right (And.right (And.right (by assumption))))) | exact rlt (And.right (And.right (And.right (And.right (by assumption))))) | exact rgt (And.right (And.right (And.right (And.right (by assumption))))) | exact rne (And.right (And.right (And.right (And.right (by assumption))))) | exact ren (And.right (And.right (And.right (And.right (by assumption))))) | exact qlt (And.right (And.right (And.right (And.right (And.right (by assumption)))))) | exact qgt (And.right (And.right (And.right (And.right (And.right (by assumption)))))) | exact qne (And.right (And.right (And.right (And.right (And.right (by assumption)))))) | exact qen (And.right (And.right (And.right (And.right (And.right (by assumption)))))) | exact rlt (And.right (And.right (And.right (And.right (And.right (by assumption)))))) | exact rgt (And.right (And.right (And.right (And.right (And.right (by assumption)))))) | exact rne (And.right (And.right (And.right (And.right (And.right (by assumption)))))) | exact ren (And.right (And.right (And.right (And.right (And.right (by assumption)))))) | exact qlt (And.right (And.right (And.right (And.right (And.right (And.right (by assumption))))))) | exact qgt (And.right (And.right (And.right (And.right (And.right (And.right (by assumption))))))) | exact qne (And.right (And.right (And.right (And.right (And.right (And.right (by assumption))))))) | exact qen (And.right (And.right (And.right (And.right (And.right (And.right (by assumption))))))) | exact rlt (And.right (And.right (And.right (And.right (And.right (And.right (by assumption))))))) | exact rgt (And.right (And.right (And.right (And.right (And.right (And.right (by assumption))))))) | exact rne (And.right (And.right (And.right (And.right (And.right (And.right (by assumption))))))) | exact ren (And.right (And.right (And.right (And.right (And.right (And.right (by assumption))))))) | exact qlt (And.right (And.right (And.right (And.right (And.right (And.right (And.right (by assumption)))))))) | exact qgt (And.right (And.right (And.right (And.right (And.right (And.right (And.right (by assumption)))))))) | exact qne (And.right (And.right (And.right (And.right (And.right (And.right (And.right (by assumption)))))))) | exact qen (And.right (And.right (And.right (And.right (And.right (And.right (And.right (by assumption)))))))) | exact rlt (And.right (And.right (And.right (And.right (And.right (And.right (And.right (by assumption)))))))) | exact rgt (And.right (And.right (And.right (And.right (And.right (And.right (And.right (by assumption)))))))) | exact rne (And.right (And.right (And.right (And.right (And.right (And.right (And.right (by assumption)))))))) | exact ren (And.right (And.right (And.right (And.right (And.right (And.right (And.right (by assumption)))))))) | exact qlt (And.right (And.right (And.right (And.right (And.right (And.right (And.right (And.right (by assumption))))))))) | exact qgt (And.right (And.right (And.right (And.right (And.right (And.right (And.right (And.right (by assumption))))))))) | exact qne (And.right (And.right (And.right (And.right (And.right (And.right (And.right (And.right (by assumption))))))))) | exact qen (And.right (And.right (And.right (And.right (And.right (And.right (And.right (And.right (by assumption))))))))) | exact rlt (And.right (And.right (And.right (And.right (And.right (And.right (And.right (And.right (by assumption))))))))) | exact rgt (And.right (And.right (And.right (And.right (And.right (And.right (And.right (And.right (by assumption))))))))) | exact rne (And.right (And.right (And.right (And.right (And.right (And.right (And.right (And.right (by assumption))))))))) | exact ren (And.right (And.right (And.right (And.right (And.right (And.right (And.right (And.right (by assumption))))))))) | exact qlt (And.right (And.right (And.right (And.right (And.right (And.right (And.right (And.right (And.right (by assumption)))))))))) | exact qgt (And.right (And.right (And.right (And.right (And.right (And.right (And.right (And.right (And.right (by assumption)))))))))) | exact qne (And.right (And.right (And.right (And.right (And.right (And.right (And.right (And.right (And.right (by assumption)))))))))) | exact qen (And.right (And.right (And.right (And.right (And.right (And.right (And.right (And.right (And.right (by assumption)))))))))) | exact rlt (And.right (And.right (And.right (And.right (And.right (And.right (And.right (And.right (And.right (by assumption)))))))))) | exact rgt (And.right (And.right (And.right (And.right (And.right (And.right (And.right (And.right (And.right (by assumption)))))))))) | exact rne (And.right (And.right (And.right (And.right (And.right (And.right (And.right (And.right (And.right (by assumption)))))))))) | exact ren (And.right (And.right (And.right (And.right (And.right (And.right (And.right (And.right (And.right (by assumption)))))))))) | exact qlt (And.right (And.right (And.right (And.right (And.right (And.right (And.right (And.right (And.right (And.right (by assumption))))))))))) | exact qgt (And.right (And.right (And.right (And.right (And.right (And.right (And.right (And.right (And.right (And.right (by assumption))))))))))) | exact qne (And.right (And.right (And.right (And.right (And.right (And.right (And.right (And.right (And.right (And.right (by assumption))))))))))) | exact qen (And.right (And.right (And.right (And.right (And.right (And.right (And.right (And.right (And.right (And.right (by assumption))))))))))) | exact rlt (And.right (And.right (And.right (And.right (And.right (And.right (And.right (And.right (And.right (And.right (by assumption))))))))))) | exact rgt (And.right (And.right (And.right (And.right (And.right (And.right (And.right (And.right (And.right (And.right (by assumption))))))))))) | exact rne (And.right (And.right (And.right (And.right (And.right (And.right (And.right (And.right (And.right (And.right (by assumption))))))))))) | exact ren (And.right (And.right (And.right (And.right (And.right (And.right (And.right (And.right (And.right (And.right (by assumption))))))))))) | exact qlt (And.right (And.right (And.right (And.right (And.right (And.right (And.right (And.right (And.right (And.right (And.right (by assumption)))))))))))) | exact qgt (And.right (And.right (And.right (And.right (And.right (And.right (And.right (And.right (And.right (And.right (And.right (by assumption)))))))))))) | exact qne (And.right (And.right (And.right (And.right (And.right (And.right (And.right (And.right (And.right (And.right (And.right (by assumption)))))))))))) | exact qen (And.right (And.right (And.right (And.right (And.right (And.right (And.right (And.right (And.right (And.right (And.right (by assumption)))))))))))) | exact rlt (And.right (And.right (And.right (And.right (And.right (And.right (And.right (And.right (And.right (And.right (And.right (by assumption)))))))))))) | exact rgt (And.right (And.right (And.right (And.right (And.right (And.right (And.right (And.right (And.right (And.right (And.right (by assumption)))))))))))) | exact rne (And.right (And.right (And.right (And.right (And.right (And.right (And.right (And.right (And.right (And.right (And.right (by assumption)))))))))))) | exact ren (And.right (And.right (And.right (And.right (And.right (And.right (And.right (And.right (And.right (And.right (And.right (by assumption)))))))))))) | exact qlt (And.right (And.right (And.right (And.right (And.right (And.right (And.right (And.right (And.right (And.right (And.right (And.right (by assumption))))))))))))) | exact qgt (And.right (And.right (And.right (And.right (And.right (And.right (And.right (And.right (And.right (And.right (And.right (And.right (by assumption))))))))))))) | exact qne (And.right (And.right (And.right (And.right (And.right (And.right (And.right (And.right (And.right (And.right (And.right (And.right (by assumption))))))))))))) | exact qen (And.right (And.right (And.right (And.right (And.right (And.right (And.right (And.right (And.right (And.right (And.right (And.right (by assumption))))))))))))) | exact rlt (And.right (And.right (And.right (And.right (And.right (And.right (And.right (And.right (And.right (And.right (And.right (And.right (by assumption))))))))))))) | exact rgt (And.right (And.right (And.right (And.right (And.right (And.right (And.right (And.right (And.right (And.right (And.right (And.right (by assumption))))))))))))) | exact rne (And.right (And.right (And.right (And.right (And.right (And.right (And.right (And.right (And.right (And.right (And.right (And.right (by assumption))))))))))))) | exact ren (And.right (And.right (And.right (And.right (And.right (And.right (And.right (And.right (And.right (And.right (And.right (And.right (by assumption))))))))))))) | exact qlt (And.right (And.right (And.right (And.right (And.right (And.right (And.right (And.right (And.right (And.right (And.right (And.right (And.right (by assumption)))))))))))))) | exact qgt (And.right (And.right (And.right (And.right (And.right (And.right (And.right (And.right (And.right (And.right (And.right (And.right (And.right (by assumption)))))))))))))) | exact qne (And.right (And.right (And.right (And.right (And.right (And.right (And.right (And.right (And.right (And.right (And.right (And.right (And.right (by assumption)))))))))))))) | exact qen (And.right (And.right (And.right (And.right (And.right (And.right (And.right (And.right (And.right (And.right (And.right (And.right (And.right (by assumption)))))))))))))) | exact rlt (And.right (And.right (And.right (And.right (And.right (And.right (And.right (And.right (And.right (And.right (And.right (And.right (And.right (by assumption)))))))))))))) | exact rgt (And.right (And.right (And.right (And.right (And.right (And.right (And.right (And.right (And.right (And.right (And.right (And.right (And.right (by assumption)))))))))))))) | exact rne (And.right (And.right (And.right (And.right (And.right (And.right (And.right (And.right (And.right (And.right (And.right (And.right (And.right (by assumption)))))))))))))) | exact ren (And.right (And.right (And.right (And.right (And.right (And.right (And.right (And.right (And.right (And.right (And.right (And.right (And.right (by assumption)))))))))))))) | exact qlt (And.right (And.right (And.right (And.right (And.right (And.right (And.right (And.right (And.right (And.right (And.right (And.right (And.right (And.right (by assumption))))))))))))))) | exact qgt (And.right (And.right (And.right (And.right (And.right (And.right (And.right (And.right (And.right (And.right (And.right (And.right (And.right (And.right (by assumption))))))))))))))) | exact qne (And.right (And.right (And.right (And.right (And.right (And.right (And.right (And.right (And.right (And.right (And.right (And.right (And.right (And.right (by assumption))))))))))))))) | exact qen (And.right (And.right (And.right (And.right (And.right (And.right (And.right (And.right (And.right (And.right (And.right (And.right (And.right (And.right (by assumption))))))))))))))) | exact rlt (And.right (And.right (And.right (And.right (And.right (And.right (And.right (And.right (And.right (And.right (And.right (And.right (And.right (And.right (by assumption))))))))))))))) | exact rgt (And.right (And.right (And.right (And.right (And.right (And.right (And.right (And.right (And.right (And.right (And.right (And.right (And.right (And.right (by assumption))))))))))))))) | exact rne (And.right (And.right (And.right (And.right (And.right (And.right (And.right (And.right (And.right (And.right (And.right (And.right (And.right (And.right (by assumption))))))))))))))) | exact ren (And.right (And.right (And.right (And.right (And.right (And.right (And.right (And.right (And.right (And.right (And.right (And.right (And.right (And.right (by assumption))))))))))))))) | exact qlt (And.right (And.right (And.right (And.right (And.right (And.right (And.right (And.right (And.right (And.right (And.right (And.right (And.right (And.right (And.right (by assumption)))))))))))))))) | exact qgt (And.right (And.right (And.right (And.right (And.right (And.right (And.right (And.right (And.right (And.right (And.right (And.right (And.right (And.right (And.right (by assumption)))))))))))))))) | exact qne (And.right (And.right (And.right (And.right (And.right (And.right (And.right (And.right (And.right (And.right (And.right (And.right (And.right (And.right (And.right (by assumption)))))))))))))))) | exact qen (And.right (And.right (And.right (And.right (And.right (And.right (And.right (And.right (And.right (And.right (And.right (And.right (And.right (And.right (And.right (by assumption)))))))))))))))) | exact rlt (And.right (And.right (And.right (And.right (And.right (And.right (And.right (And.right (And.right (And.right (And.right (And.right (And.right (And.right (And.right (by assumption)))))))))))))))) | exact rgt (And.right (And.right (And.right (And.right (And.right (And.right (And.right (And.right (And.right (And.right (And.right (And.right (And.right (And.right (And.right (by assumption)))))))))))))))) | exact rne (And.right (And.right (And.right (And.right (And.right (And.right (And.right (And.right (And.right (And.right (And.right (And.right (And.right (And.right (And.right (by assumption)))))))))))))))) | exact ren (And.right (And.right (And.right (And.right (And.right (And.right (And.right (And.right (And.right (And.right (And.right (And.right (And.right (And.right (And.right (by assumption))))))))))))))))))
  trivial
theorem lay6 : True := by
  k_with "mine texts" => ((try dsimp only [← sx0, ← sx1, ← sx2, ← sx3, ← sx4, ← sx5, ← sx6, ← sx7, ← sx8, ← sx9, ← sx10, ← sx11, ← sx12, ← sx13, ← sx14, ← sx15, ← sx16, ← sx17, ← sx18, ← sx19, ← sx20, ← sx21, ← sx22, ← sx23, ← sx24, ← sx25, ← sx26, ← sx27, ← sx28, ← sx29, ← sx30, ← sx31, ← sx32, ← sx33, ← sx34, ← sx35, ← sx36, ← sx37, ← sx38, ← sx39, ← sx40, ← sx41, ← sx42, ← sx43, ← sx44, ← sx45, ← sx46, ← sx47, ← sx48, ← sx49, ← sx50, ← sx51, ← sx52, ← sx53, ← sx54, ← sx55, ← sx56, ← sx57, ← sx58, ← sx59, ← sx60, ← sx61, ← sx62, ← sx63, ← sx64, ← sx65, ← sx66, ← sx67, ← sx68, ← sx69, ← sx70, ← sx71, ← sx72, ← sx73, ← sx74, ← sx75, ← sx76, ← sx77, ← sx78, ← sx79, ← sx80]))
  k_with "mine drop" => (first | (refine' Drop.head ?a; (case a => k_all)) | (refine' Drop.tail ?a ?b; (case a => k_ne); (case b => walk_at "mine drop")))
  k_with "setAttr ref" => ((k_here; k_dflt (first | (refine' exc_set0 ?k1 ?k2 ?k3 ?k4 ?k5 ?k6 ?k7 ?k8 ?k9 ?_; (case k1 => k_asm); (case k2 => k_asm); (case k3 => k_asm); (case k4 => k_mem); (case k5 => k_is); (case k6 => kernel_rfl); (case k7 => k_is); (case k8 => k_is); (case k9 => intro zqd; k_upd); k_whole; intro zqdp zqhp zqFp zqNp zql1; (try k_lt zql1)) | (refine' exc_set_args ?k1 ?k2 ?k3 ?k4 ?k5 ?k6 ?k7 ?k8 ?k9 ?k10 ?_; (case k1 => k_asm); (case k2 => k_asm); (case k3 => k_asm); (case k4 => first | (refine' InstAt.of_exc ?N ?h1 ?h2; (case N => k_asm); (case h1 => k_mem); (case h2 => k_mem)) | (refine' InstAt.of_exc0 ?N ?h1; (case N => k_asm); (case h1 => k_mem))); (case k5 => exact isTup_of (by k_asm) (by k_mem)); (case k6 => k_is); (case k7 => kernel_rfl); (case k8 => k_is); (case k9 => k_is); (case k10 => k_upd); k_whole; intro zqhp zqFp zqNp) | (refine' exc_set ?k1 ?k2 ?k3 ?k4 ?k5 ?k6 ?k7 ?k8 ?k9 ?k10 ?k11 ?k12 ?_; (case k1 => k_asm); (case k2 => k_asm); (case k3 => k_asm); (case k4 => first | (refine' InstAt.of_exc ?N ?h1 ?h2; (case N => k_asm); (case h1 => k_mem); (case h2 => k_mem)) | (refine' InstAt.of_exc0 ?N ?h1; (case N => k_asm); (case h1 => k_mem))); (case k5 => k_is); (case k6 => kernel_rfl); (case k7 => k_is); (case k8 => k_is); (case k9 => k_get); (case k10 => k_put); (case k11 => k_upd); (case k12 => exact Nat.le_of_ble_eq_true rfl); k_whole; intro zqhp zqFp zqNp))))
  k_with "call builtin:Exception.__init__" => ((k_here; k_dflt (refine' exc_init_call ?k1 ?k2 ?k3 ?k4 ?k5 ?k6 ?_; (case k1 => k_asm); (case k2 => k_asm); (case k3 => k_asm); (case k4 => first | (refine' InstAt.of_exc ?N ?h1 ?h2; (case N => k_asm); (case h1 => k_mem); (case h2 => k_mem)) | (refine' InstAt.of_exc0 ?N ?h1; (case N => k_asm); (case h1 => k_mem))); (case k5 => k_is); (case k6 => intro zqt; k_upd); k_whole; intro zqtp zqhp zqFp zqNp zql1; (try k_lt zql1))))
  k_with "call builtin:repr" => ((k_here; k_dflt (refine' repr_use ?k1 ?k2 ?k3 ?k4 ?k5 ?k6 ?k7 ?_; (case k1 => assumption); (case k2 => k_asm); (case k3 => k_asm); (case k4 => exact rfl); (case k5 => exact rfl); (case k6 => exact Nat.le_of_ble_eq_true rfl); (case k7 => exact Nat.le_of_ble_eq_true rfl); k_whole; intro zqhp zqup zqtkp zqFp zqNp)))
  k_with "BackIn" => ((k_dflt (refine' back_ ?k1 ?k2 ?k3 ?_; (case k1 => k_asm); (case k2 => k_asm); (case k3 => walk_at "mine drop"); k_whole; intro zqFp zqNp; (try dsimp only))))
  k_with "call ref" => ((k_here; k_dflt (refine wpAny_call ?_; refine' enter_in ?k1 ?k2 ?k3 ?k4 ?k5 ?k6 ?k7 ?k8 ?kB ?c2 ?c3 ?c4 ?c5 ?_; (case k1 => k_asm); (case k2 => k_asm); (case k3 => k_asm); (case k4 => exact Top.nolimit (by assumption)); (case k5 => k_is); (case k6 => k_is); (case k7 => exact Nat.le_of_ble_eq_true rfl); (case k8 => first | ((with_reducible show BindsTo _ _ ⟨[_], []⟩ _); first | exact BindsTo.of_eq (binds := [(_, _)]) rfl | exact binds_K (binds := [(_, _)]) (by k_in) rfl (by k_is) rfl rfl rfl) | ((with_reducible show BindsTo _ _ ⟨[_, _], []⟩ _); first | exact BindsTo.of_eq (binds := [(_, _), (_, _)]) rfl | exact binds_K (binds := [(_, _), (_, _)]) (by k_in) rfl (by k_is) rfl rfl rfl) | ((with_reducible show BindsTo _ _ ⟨[_, _, _], []⟩ _); first | exact BindsTo.of_eq (binds := [(_, _), (_, _), (_, _)]) rfl | exact binds_K (binds := [(_, _), (_, _), (_, _)]) (by k_in) rfl (by k_is) rfl rfl rfl) | ((with_reducible show BindsTo _ _ ⟨[_, _, _, _], []⟩ _); first | exact BindsTo.of_eq (binds := [(_, _), (_, _), (_, _), (_, _)]) rfl | exact binds_K (binds := [(_, _), (_, _), (_, _), (_, _)]) (by k_in) rfl (by k_is) rfl rfl rfl) | ((with_reducible show BindsTo _ _ ⟨[_, _, _, _, _], []⟩ _); first | exact BindsTo.of_eq (binds := [(_, _), (_, _), (_, _), (_, _), (_, _)]) rfl | exact binds_K (binds := [(_, _), (_, _), (_, _), (_, _), (_, _)]) (by k_in) rfl (by k_is) rfl rfl rfl)); (case c5 => decide); (case kB => exact locs rfl); (case c2 => exact rfl); (case c3 => exact rfl); (case c4 => exact rfl); k_whole; intro zqoLp zqLp zqhp zqtkp zqFp zqNp zql1 zqn1; (try k_lt zql1); (try (replace zqn1 := allNe_of zqn1; simp only [AllNe, and_true] at zqn1)); (try dsimp only); walk_at "mine texts")))
  k_with "call builtin:str.join" => ((k_here; (with_reducible show wpAny _ _ (call (Value.builtin "str.join") [Value.str _ _, Value.ref _]) _ _ _); k_dflt (refine join_listC (by is_list) (by repeat constructor) (by decide) (by (simp only [List.map_cons, List.map_nil, List.sum_cons, List.sum_nil, List.length_cons, List.length_nil]; omega)) ?_); intro zqtp zqkp))
  k_with "getMethod type:Exception" => ((k_here; refine' method_type ?F ?X ?m (by decide +kernel) ?e ?h ?_; (case F => k_asm); (case X => k_asm); (case m => exact meta_Exception); (case e => k_dflt k_is); (case h => k_handed)))
  k_with "compareOp IsNot" => ((k_here; k_dflt (refine isNot_none (by assumption) ?_)))
  k_with "call builtin:str.format" => ((k_here; k_dflt (refine' line_use ?k1 ?k2 ?k3 ?k4 ?k5 ?k6 ?k7 ?_; (case k1 => assumption); (case k2 => k_asm); (case k3 => k_asm); (case k4 => exact rfl); (case k5 => exact rfl); (case k6 => exact Nat.le_of_ble_eq_true rfl); (case k7 => exact Nat.le_of_ble_eq_true rfl); k_whole; intro zqhp zqup zqtkp zqFp zqNp)))
  k_with "call builtin:str.format" => ((k_here; (with_reducible show wpAny _ _ (call (Value.builtin "str.format") [Value.str _ _, _, _, _, _]) _ _ _); k_dflt (refine' fmt_use ?k1 ?k2 ?k3 ?k4 ?k5 ?_; (case k1 => k_asm); (case k2 => k_asm); (case k3 => exact ⟨rfl, rfl, Nat.le_of_ble_eq_true rfl, Nat.le_of_ble_eq_true rfl⟩); (case k4 => exact args_5 _ _ _ _ _); (case k5 => walk_at "mine fmt")); k_whole; intro zqhp zqup zqtkp zqFp zqNp))
  k_with "pyReprObj" => ((k_here; k_dflt (refine' reprObj_use ?k1 ?k2 ?k3 ?k4 ?k5 ?k6 ?k7 ?_; (case k1 => assumption); (case k2 => k_asm); (case k3 => k_asm); (case k4 => exact rfl); (case k5 => exact rfl); (case k6 => exact Nat.le_of_ble_eq_true rfl); (case k7 => exact Nat.le_of_ble_eq_true rfl); k_whole; intro zqhp zqup zqtkp zqFp zqNp)))
  trivial
theorem line04 : ∀ {p : Program} {loose : List Str} {mean : ExcName → Option Value} {mg mb : Str → Option Value} (w : World) (s : Shared) (f : Str) (t : Tok) (lo hi k : Int) (hN : LineAt f lo hi k)
    (Q E : Value → Shared → Prop) (KX : (hz.heap_137 w.params).In s.heap) (T : Top p loose mean mg mb s.heap)
    (hQ : ∀ h' tk (u : Tok), Grow s.heap h' → Q (.int k u) { s with heap := h', toks := tk }),
    wpAny (model PySem.Challenge.rw_dm0028_04.prog w) (AD 600 2000) (call (.ref 96) [.str f t]) Q E s := by
  w_top off
  k_fill
  intro p loose mean mg mb w s f t lo hi k hN Q E KX T hQ
  obtain ⟨hh, g, dr, tk, os⟩ := s
  dsimp only at KX T  hQ
  w_strict (
  refine wpAny_call ?_
  k_dflt (refine' enter_new (h₀ := hh) (binds := [("figures", .str f t)]) (news := []) ?k1 ?k2 KX T.nolimit ?k9 ?k5 ?k6 ?k7 ?k8 ?kB ?c2 ?c3 ?c4 ?c5 ?_; (case k5 => k_is); (case k6 => k_is); (case k7 => exact Nat.le_of_ble_eq_true rfl); (case k8 => first | exact BindsTo.of_eq rfl | exact binds_K KX rfl (by k_is) rfl rfl rfl); (case c5 => decide); (case kB => exact locs rfl); (case c2 => exact rfl); (case c3 => exact rfl); (case c4 => exact rfl); (case k1 => exact fun _ _ e => e); (case k2 => exact Nat.le_refl _); (case k9 => exact List.forall_mem_nil _))
  intro L' h' tk' F' N' l1
  walk_at "mine texts"
  obtain ⟨hl, h1, h2, h3, h4⟩ := hN
  subst h1
  unfold digs at h2 h3 h4
  have hl2 : f.length ≤ 1000 := by omega
  k_steps
  · exact absurd (by assumption : ((f.length : Nat) : Int) ≠ 2) (by rw [hl]; decide)
  · rcases h4 with ⟨h5, rfl⟩ | ⟨h5, _⟩
    · (with_reducible rename Fr _ _ _ _ => Fz)
      exact hQ _ _ _ Fz.keep
    · exact absurd (by assumption : (Txt.item f 0 == _) = true) (by simpa using h5)
  · rcases h4 with ⟨h5, _⟩ | ⟨_, h5, h6, _⟩
    · exact absurd (by assumption : (Txt.item f 0 == _) = false) (by simp [h5])
    · exfalso; omega
  · rcases h4 with ⟨h5, _⟩ | ⟨_, h5, _, _, rfl⟩
    · exact absurd (by assumption : (Txt.item f 0 == _) = false) (by simp [h5])
    · subst h5
      (with_reducible rename Fr _ _ _ _ => Fz)
      exact hQ _ _ _ Fz.keep)
end
section
theorem lay7 : True := by
  k_with_none
  k_with "ne" => (with_reducible (first | exact ns1 | exact ns2 | exact qlt (by assumption) | exact qgt (by assumption) | exact qne (by assumption) | exact qen (by assumption) | exact rlt (by assumption) | exact rgt (by assumption) | exact rne (by assumption) | exact ren (by assumption) | exact qlt (And.right (by assumption)) | exact qgt (And.right (by assumption)) | exact qne (And.right (by assumption)) | exact qen (And.right (by assumption)) | exact rlt (And.right (by assumption)) | exact rgt (And.right (by assumption)) | exact rne (And.right (by assumption)) | exact ren (And.right (by assumption)) | exact qlt (And.right (And.right (by assumption))) | exact qgt (And.right (And.right (by assumption))) | exact qne (And.right (And.right (by assumption))) | exact qen (And.right (And.right (by assumption))) | exact rlt (And.right (And.right (by assumption))) | exact rgt (And.right (And.right (by assumption))) | exact rne (And.right (And.right (by assumption))) | exact ren (And.right (And.right (by assumption))) | exact qlt (And.right (And.right (And.right (by assumption)))) | exact qgt (And.right (And.right (And.right (by assumption)))) | exact qne (And.right (And.right (And.right (by assumption)))) | exact qen (And.right (And.right (And.right (by assumption)))) | exact rlt (And.right (And.right (And.right (by assumption)))) | exact rgt (And.right (And.right (And.right (by assumption)))) | exact rne (And.right (And.right (And.right (by assumption)))) | exact ren (And.right (And.right (And.right (by assumption)))) | exact qlt (And.right (And.right (And.right (And.right (by assumption))))) | exact qgt (And.right (And.right (And.right (And.right (by assumption))))) | exact qne (And.right (And.right (And.right (And.right (by assumption))))) | exact qen (And.right (And.right (And.right (And.right (by assumption))))) | exact rlt (And.right (And.right (And.right (And.right (by assumption))))) | exact rgt (And.right (And.right (And.right (And.right (by assumption))))) | exact rne (And.right (And.right (And.right (And.right (by assumption))))) | exact ren (And.right (And.right (And.right (And.right (by assumption))))) | exact qlt (And.right (And.right (And.right (And.right (And.right (by assumption)))))) | exact qgt (And.right (And.right (And.right (And.right (And.right (by assumption)))))) | exact qne (And.right (And.right (And.right (And.right (And.right (by assumption)))))) | exact qen (And.right (And.right (And.right (And.right (And.right (by assumption)))))) | exact rlt (And.right (And.right (And.right (And.right (And.right (by assumption)))))) | exact rgt (And.right (And.right (And.right (And.right (And.right (by assumption)))))) | exact rne (And.right (And.right (And.right (And.right (And.right (by assumption)))))) | exact ren (And.right (And.right (And.right (And.right (And.right (by assumption)))))) | exact qlt (And.right (And.right (And.right (And.right (And.right (And.right (by assumption))))))) | exact qgt (And.right (And.right (And.right (And.right (And.right (And.right (by assumption))))))) | exact qne (And.right (And.right (And.right (And.right (And.right (And.right (by assumption))))))) | exact qen (And.right (And.right (And.right (And.right (And.right (And.right (by assumption))))))) | exact rlt (And.right (And.right (And.right (And.right (And.right (And.right (by assumption))))))) | exact rgt (And.right (And.right (And.right (And.right (And.right (And.right (by assumption))))))) | exact rne (And.right (And.right (And.right (And.right (And.right (And.right (by assumption))))))) | exact ren (And.right (And.right (And.right (And.right (And.right (And.right (by assumption))))))) | exact qlt (And.right (And.right (And.right (And.right (And.right (And.right (And.right (by assumption)))))))) | exact qgt (And.right (And.right (And.right (And.right (And.right (And.right (And.right (by assumption)))))))) | exact qne (And.right (And.right (And.right (And.right (And.right (And.right (And.right (by assumption)))))))) | exact qen (And.right (And.right (And.right (And.right (And.right (And.right (And.right (by assumption)))))))) | exact rlt (And.right (And.right (And.right (And.right (And.right (And.right (And.right (by assumption)))))))) | exact rgt (And.right (And.right (And.right (And.right (And.right (And.right (And.right (by assumption)))))))) | exact rne (And.right (And.right (And.right (And.right (And.right (And.right (And.right (by assumption)))))))) | exact ren (And.right (And.right (And.right (And.right (And.right (And.right (And.right (by assumption)))))))) | exact qlt (And.right (And.right (And.right (And.right (And.right (And.right (And.right (And.right (by assumption))))))))) | exact qgt (And.right (And.right (And.right (And.right (And.right (And.right (And.right (And.right (by assumption))))))))) | exact qne (And.right (And.right (And.right (And.right (And.right (And.right (And.right (And.right (by assumption))))))))) | exact qen (And.right (And.right (And.right (And.right (And.right (And.right (And.right (And.right (by assumption))))))))) | exact rlt (And.right (And.right (And.right (And.right (And.right (And.right (And.right (And.right (by assumption))))))))) | exact rgt (And.right (And.right (And.right (And.right (And.right (And.right (And.right (And.right (by assumption))))))))) | exact rne (And.right (And.right (And.right (And.right (And.right (And.right (And.right (And.right (by assumption))))))))) | exact ren (And.right (And.right (And.right (And.right (And.right (And.right (And.right (And.right (by assumption))))))))) | exact qlt (And.right (And.right (And.right (And.right (And.right (And.right (And.right (And.right (And.right (by assumption)))))))))) | exact qgt (And.right (And.right (And.right (And.right (And.right (And.right (And.right (And.right (And.right (by assumption)))))))))) | exact qne (And.right (And.right (And.right (And.right (And.right (And.right (And.right (And.right (And.right (by assumption)))))))))) | exact qen (And.right (And.right (And.right (And.right (And.right (And.right (And.right (And.right (And.right (by assumption)))))))))) | exact rlt (And.right (And.right (And.right (And.right (And.right (And.right (And.right (And.right (And.right (by assumption)))))))))) | exact rgt (And.right (And.right (And.right (And.right (And.right (And.right (And.right (And.right (And.right (by assumption)))))))))) | exact rne (And.right (And.right (And.right (And.right (And.right (And.right (And.right (And.right (And.right (by assumption)))))))))) | exact ren (And.right (And.right (And.right (And.right (And.right (And.right (And.right (And.right (And.right (by assumption)))))))))) | exact qlt (And.right (And.right (And.right (And.right (And.right (And.right (And.right (And.right (And.right (And.right (by assumption))))))))))) | exact qgt (And.right (And.right (And.right (And.right (And.right (And.right (And.right (And.right (And.right (And.right (by assumption))))))))))) | exact qne (And.right (And.right (And.right (And.right (And.right (And.right (And.right (And.right (And.right (And.right (by assumption))))))))))) | exact qen (And.right (And.right (And.right (And.right (And.right (And.right (And.right (And.right (And.right (And.right (by assumption))))))))))) | exact rlt (And.right (And.right (And.right (And.right (And.right (And.right (And.right (And.right (And.right (And.right (by assumption))))))))))) | exact rgt (And.right (And.right (And.right (And.right (And.right (And.right (And.right (And.right (And.right (And.right (by assumption))))))))))) | exact rne (And.right (And.right (And.right (And.right (And.right (And.right (And.right (And.right (And.right (And.right (by assumption))))))))))) | exact ren (And.right (And.right (And.right (And.right (And.right (And.right (And.right (And.right (And.right (And.right (by assumption))))))))))) | exact qlt (And.right (And.right (And.right (And.right (And.right (And.right (And.right (And.right (And.right (And.right (And.right (by assumption)))))))))))) | exact qgt (And.right (And.right (And.right (And.right (And.right (And.right (And.right (And.right (And.right (And.right (And.right (by assumption)))))))))))) | exact qne (And.right (And.right (And.right (And.right (And.right (And.right (And.right (And.right (And.right (And.right (And.right (by assumption)))))))))))) | exact qen (And.right (And.right (And.right (And.right (And.right (And.right (And.right (And.right (And.right (And.right (And.right (by assumption)))))))))))) | exact rlt (And.right (And.right (And.right (And.right (And.right (And.right (And.right (And.right (And.right (And.right (And.right (by assumption)))))))))))) | exact rgt (And.right (And.right (And.right (And.right (And.right (And.right (And.right (And.right (And.right (And.right (And.right (by assumption)))))))))))) | exact rne (And.right (And.right (And.right (And.right (And.right (And.right (And.right (And.right (And.right (And.right (And.right (by assumption)))))))))))) | exact ren (And.right (And.right (And.right (And.right (And.right (And.right (And.right (And.right (And.right (And.right (And.right (by assumption)))))))))))) | exact qlt (And.right (And.right (And.right (And.right (And.right (And.right (And.right (And.right (And.right (And.right (And.right (And.right (by assumption))))))))))))) | exact qgt (And.right (And.right (And.right (And.right (And.right (And.right (And.right (And.right (And.right (And.right (And.right (And.right (by assumption))))))))))))) | exact qne (And.right (And.right (And.right (And.right (And.right (And.right (And.right (And.right (And.right (And.right (And.right (And.right (by assumption))))))))))))) | exact qen (And.right (And.right (And.right (And.right (And.right (And.right (And.right (And.right (And.right (And.right (And.right (And.right (by assumption))))))))))))) | exact rlt (And.right (And.right (And.right (And.right (And.right (And.right (And.right (And.right (And.right (And.right (And.right (And.right (by assumption))))))))))))) | exact rgt (And.right (And.right (And.right (And.right (And.right (And.right (And.right (And.right (And.right (And.right (And.right (And.right (by assumption))))))))))))) | exact rne (And.right (And.right (And.right (And.right (And.right (And.right (And.right (And.right (And.right (And.right (And.right (And.right (by assumption))))))))))))) | exact ren (And.right (And.right (And.right (And.right (And.right (And.right (And.right (And.right (And.right (And.right (And.right (And.right (by assumption))))))))))))) | exact qlt (And.right (And.right (And.right (And.right (And.right (And.right (And.right (And.right (And.right (And.right (And.right (And.right (And.right (by assumption)))))))))))))) | exact qgt (And.right (And.right (And.right (And.right (And.right (And.right (And.right (And.right (And.right (And.right (And.right (And.right (And.right (by assumption)))))))))))))) | exact qne (And.right (And.right (And.right (And.right (And.right (And.right (And.right (And.right (And.right (And.right (And.right (And.right (And.right (by assumption)))))))))))))) | exact qen (And.right (And.right (And.right (And.right (And.right (And.right (And.right (And.right (And.right (And.right (And.right (And.right (And.right (by assumption)))))))))))))) | exact rlt (And.right (And.right (And.right (And.right (And.right (And.right (And.right (And.right (And.right (And.right (And.right (And.right (And.right (by assumption)))))))))))))) | exact rgt (And.right (And.right (And.right (And.right (And.right (And.right (And.right (And.right (And.right (And.right (And.right (And.right (And.right (by assumption)))))))))))))) | exact rne (And.right (And.right (And.right (And.right (And.right (And.right (And.right (And.right (And.right (And.right (And.right (And.right (And.right (by assumption)))))))))))))) | exact ren (And.right (And.right (And.right (And.right (And.right (And.right (And.right (And.right (And.right (And.right (And.right (And.right (And.right (by assumption)))))))))))))) | exact qlt (And.right (And.right (And.right (And.right (And.right (And.right (And.right (And.right (And.right (And.right (And.right (And.right (And.right (And.right (by assumption))))))))))))))) | exact qgt (And.right (And.right (And.right (And.right (And.right (And.right (And.right (And.right (And.right (And.right (And.right (And.right (And.right (And.right (by assumption))))))))))))))) | exact qne (And.right (And.right (And.right (And.right (And.right (And.right (And.right (And.right (And.right (And.right (And.right (And.right (And.right (And.right (by assumption))))))))))))))) | exact qen (And.right (And.right (And.right (And.right (And.right (And.right (And.right (And.right (And.right (And.right (And.right (And.right (And.right (And.right (by assumption))))))))))))))) | exact rlt (And.right (And.right (And.right (And.right (And.right (And.right (And.right (And.right (And.right (And.right (And.right (And.right (And.right (And.right (by assumption))))))))))))))) | exact rgt (And.right (And.right (And.right (And.right (And.right (And.right (And.right (And.right (And.right (And.right (And.right (And.right (And.right (And.right (by assumption))))))))))))))) | exact rne (And.right (And.right (And.right (And.right (And.right (And.right (And.right (And.right (And.right (And.right (And.right (And.right (And.right (And.right (by assumption))))))))))))))) | exact ren (And.right (And.right (And.right (And.right (And.right (And.right (And.right (And.right (And.right (And.right (And.right (And.right (And.right (And.right (by assumption))))))))))))))) | exact qlt (And.right (And.right (And.right (And.right (And.right (And.right (And.right (And.right (And.right (And.right (And.right (And.right (And.right (And.right (And.right (by assumption)))))))))))))))) | exact qgt (And.right (And.right (And.right (And.right (And.right (And.right (And.right (And.right (And.right (And.right (And.right (And.right (And.right (And.right (And.right (by assumption)))))))))))))))) | exact qne (And.right (And.right (And.right (And.right (And.right (And.right (And.right (And.right (And.right (And.right (And.right (And.right (And.right (And.right (And.right (by assumption)))))))))))))))) | exact qen (And.right (And.right (And.right (And.right (And.right (And.right (And.right (And.right (And.right (And.right (And.right (And.right (And.right (And.right (And.right (by assumption)))))))))))))))) | exact rlt (And.right (And.right (And.right (And.right (And.right (And.right (And.right (And.right (And.right (And.right (And.right (And.right (And.right (And.right (And.right (by assumption)))))))))))))))) | exact rgt (And.right (And.right (And.right (And.right (And.right (And.right (And.right (And.right (And.right (And.right (And.right (And.right (And.right (And.right (And.right (by assumption)))))))))))))))) | exact rne (And.right (And.right (And.right (And.right (And.right (And.right (And.right (And.right (And.right (And.right (And.right (And.right (And.right (And.right (And.right (by assumption)))))))))))))))) | exact ren (And.right (And.right (And.right (And.right (And.right (And.right (And.right (And.right (And.right (And.right (And.right (And.right (And.right (And.right (And.right (by assumption))))))))))))))))))
  trivial
theorem lay8 : True := by
  k_with "mine texts" => ((try dsimp only [← sx0, ← sx1, ← sx2, ← sx3, ← sx4, ← sx5, ← sx6, ← sx7, ← sx8, ← sx9, ← sx10, ← sx11, ← sx12, ← sx13, ← sx14, ← sx15, ← sx16, ← sx17, ← sx18, ← sx19, ← sx20, ← sx21, ← sx22, ← sx23, ← sx24, ← sx25, ← sx26, ← sx27, ← sx28, ← sx29, ← sx30, ← sx31, ← sx32, ← sx33, ← sx34, ← sx35, ← sx36, ← sx37, ← sx38, ← sx39, ← sx40, ← sx41, ← sx42, ← sx43, ← sx44, ← sx45, ← sx46, ← sx47, ← sx48, ← sx49, ← sx50, ← sx51, ← sx52, ← sx53, ← sx54, ← sx55, ← sx56, ← sx57, ← sx58, ← sx59, ← sx60, ← sx61, ← sx62, ← sx63, ← sx64, ← sx65, ← sx66, ← sx67, ← sx68, ← sx69, ← sx70, ← sx71, ← sx72, ← sx73, ← sx74, ← sx75, ← sx76, ← sx77, ← sx78, ← sx79, ← sx80]))
  k_with "mine drop" => (first | (refine' Drop.head ?a; (case a => k_all)) | (refine' Drop.tail ?a ?b; (case a => k_ne); (case b => walk_at "mine drop")))
  k_with "setAttr ref" => ((k_here; k_dflt (first | (refine' exc_set0 ?k1 ?k2 ?k3 ?k4 ?k5 ?k6 ?k7 ?k8 ?k9 ?_; (case k1 => k_asm); (case k2 => k_asm); (case k3 => k_asm); (case k4 => k_mem); (case k5 => k_is); (case k6 => kernel_rfl); (case k7 => k_is); (case k8 => k_is); (case k9 => intro zqd; k_upd); k_whole; intro zqdp zqhp zqFp zqNp zql1; (try k_lt zql1)) | (refine' exc_set_args ?k1 ?k2 ?k3 ?k4 ?k5 ?k6 ?k7 ?k8 ?k9 ?k10 ?_; (case k1 => k_asm); (case k2 => k_asm); (case k3 => k_asm); (case k4 => first | (refine' InstAt.of_exc ?N ?h1 ?h2; (case N => k_asm); (case h1 => k_mem); (case h2 => k_mem)) | (refine' InstAt.of_exc0 ?N ?h1; (case N => k_asm); (case h1 => k_mem))); (case k5 => exact isTup_of (by k_asm) (by k_mem)); (case k6 => k_is); (case k7 => kernel_rfl); (case k8 => k_is); (case k9 => k_is); (case k10 => k_upd); k_whole; intro zqhp zqFp zqNp) | (refine' exc_set ?k1 ?k2 ?k3 ?k4 ?k5 ?k6 ?k7 ?k8 ?k9 ?k10 ?k11 ?k12 ?_; (case k1 => k_asm); (case k2 => k_asm); (case k3 => k_asm); (case k4 => first | (refine' InstAt.of_exc ?N ?h1 ?h2; (case N => k_asm); (case h1 => k_mem); (case h2 => k_mem)) | (refine' InstAt.of_exc0 ?N ?h1; (case N => k_asm); (case h1 => k_mem))); (case k5 => k_is); (case k6 => kernel_rfl); (case k7 => k_is); (case k8 => k_is); (case k9 => k_get); (case k10 => k_put); (case k11 => k_upd); (case k12 => exact Nat.le_of_ble_eq_true rfl); k_whole; intro zqhp zqFp zqNp))))
  k_with "call builtin:Exception.__init__" => ((k_here; k_dflt (refine' exc_init_call ?k1 ?k2 ?k3 ?k4 ?k5 ?k6 ?_; (case k1 => k_asm); (case k2 => k_asm); (case k3 => k_asm); (case k4 => first | (refine' InstAt.of_exc ?N ?h1 ?h2; (case N => k_asm); (case h1 => k_mem); (case h2 => k_mem)) | (refine' InstAt.of_exc0 ?N ?h1; (case N => k_asm); (case h1 => k_mem))); (case k5 => k_is); (case k6 => intro zqt; k_upd); k_whole; intro zqtp zqhp zqFp zqNp zql1; (try k_lt zql1))))
  k_with "call builtin:repr" => ((k_here; k_dflt (refine' repr_use ?k1 ?k2 ?k3 ?k4 ?k5 ?k6 ?k7 ?_; (case k1 => assumption); (case k2 => k_asm); (case k3 => k_asm); (case k4 => exact rfl); (case k5 => exact rfl); (case k6 => exact Nat.le_of_ble_eq_true rfl); (case k7 => exact Nat.le_of_ble_eq_true rfl); k_whole; intro zqhp zqup zqtkp zqFp zqNp)))
  k_with "BackIn" => ((k_dflt (refine' back_ ?k1 ?k2 ?k3 ?_; (case k1 => k_asm); (case k2 => k_asm); (case k3 => walk_at "mine drop"); k_whole; intro zqFp zqNp; (try dsimp only))))
  k_with "call ref" => ((k_here; k_dflt (refine wpAny_call ?_; refine' enter_in ?k1 ?k2 ?k3 ?k4 ?k5 ?k6 ?k7 ?k8 ?kB ?c2 ?c3 ?c4 ?c5 ?_; (case k1 => k_asm); (case k2 => k_asm); (case k3 => k_asm); (case k4 => exact Top.nolimit (by assumption)); (case k5 => k_is); (case k6 => k_is); (case k7 => exact Nat.le_of_ble_eq_true rfl); (case k8 => first | ((with_reducible show BindsTo _ _ ⟨[_], []⟩ _); first | exact BindsTo.of_eq (binds := [(_, _)]) rfl | exact binds_K (binds := [(_, _)]) (by k_in) rfl (by k_is) rfl rfl rfl) | ((with_reducible show BindsTo _ _ ⟨[_, _], []⟩ _); first | exact BindsTo.of_eq (binds := [(_, _), (_, _)]) rfl | exact binds_K (binds := [(_, _), (_, _)]) (by k_in) rfl (by k_is) rfl rfl rfl) | ((with_reducible show BindsTo _ _ ⟨[_, _, _], []⟩ _); first | exact BindsTo.of_eq (binds := [(_, _), (_, _), (_, _)]) rfl | exact binds_K (binds := [(_, _), (_, _), (_, _)]) (by k_in) rfl (by k_is) rfl rfl rfl) | ((with_reducible show BindsTo _ _ ⟨[_, _, _, _], []⟩ _); first | exact BindsTo.of_eq (binds := [(_, _), (_, _), (_, _), (_, _)]) rfl | exact binds_K (binds := [(_, _), (_, _), (_, _), (_, _)]) (by k_in) rfl (by k_is) rfl rfl rfl) | ((with_reducible show BindsTo _ _ ⟨[_, _, _, _, _], []⟩ _); first | exact BindsTo.of_eq (binds := [(_, _), (_, _), (_, _), (_, _), (_, _)]) rfl | exact binds_K (binds := [(_, _), (_, _), (_, _), (_, _), (_, _)]) (by k_in) rfl (by k_is) rfl rfl rfl)); (case c5 => decide); (case kB => exact locs rfl); (case c2 => exact rfl); (case c3 => exact rfl); (case c4 => exact rfl); k_whole; intro zqoLp zqLp zqhp zqtkp zqFp zqNp zql1 zqn1; (try k_lt zql1); (try (replace zqn1 := allNe_of zqn1; simp only [AllNe, and_true] at zqn1)); (try dsimp only); walk_at "mine texts")))
  k_with "call builtin:str.join" => ((k_here; (with_reducible show wpAny _ _ (call (Value.builtin "str.join") [Value.str _ _, Value.ref _]) _ _ _); k_dflt (refine join_listC (by is_list) (by repeat constructor) (by decide) (by (simp only [List.map_cons, List.map_nil, List.sum_cons, List.sum_nil, List.length_cons, List.length_nil]; omega)) ?_); intro zqtp zqkp))
  k_with "getMethod type:Exception" => ((k_here; refine' method_type ?F ?X ?m (by decide +kernel) ?e ?h ?_; (case F => k_asm); (case X => k_asm); (case m => exact meta_Exception); (case e => k_dflt k_is); (case h => k_handed)))
  k_with "compareOp IsNot" => ((k_here; k_dflt (refine isNot_none (by assumption) ?_)))
  k_with "call builtin:str.format" => ((k_here; k_dflt (refine' line_use ?k1 ?k2 ?k3 ?k4 ?k5 ?k6 ?k7 ?_; (case k1 => assumption); (case k2 => k_asm); (case k3 => k_asm); (case k4 => exact rfl); (case k5 => exact rfl); (case k6 => exact Nat.le_of_ble_eq_true rfl); (case k7 => exact Nat.le_of_ble_eq_true rfl); k_whole; intro zqhp zqup zqtkp zqFp zqNp)))
  k_with "call builtin:str.format" => ((k_here; (with_reducible show wpAny _ _ (call (Value.builtin "str.format") [Value.str _ _, _, _, _, _]) _ _ _); k_dflt (refine' fmt_use ?k1 ?k2 ?k3 ?k4 ?k5 ?_; (case k1 => k_asm); (case k2 => k_asm); (case k3 => exact ⟨rfl, rfl, Nat.le_of_ble_eq_true rfl, Nat.le_of_ble_eq_true rfl⟩); (case k4 => exact args_5 _ _ _ _ _); (case k5 => walk_at "mine fmt")); k_whole; intro zqhp zqup zqtkp zqFp zqNp))
  k_with "pyReprObj" => ((k_here; k_dflt (refine' reprObj_use ?k1 ?k2 ?k3 ?k4 ?k5 ?k6 ?k7 ?_; (case k1 => assumption); (case k2 => k_asm); (case k3 => k_asm); (case k4 => exact rfl); (case k5 => exact rfl); (case k6 => exact Nat.le_of_ble_eq_true rfl); (case k7 => exact Nat.le_of_ble_eq_true rfl); k_whole; intro zqhp zqup zqtkp zqFp zqNp)))
  k_with "call ref" => ((k_here; (with_reducible show wpAny _ _ (call (Value.ref 89) [Value.str _ _, Value.int _ _]) _ _ _); k_dflt (refine' one_use (ι := Tok × Tok) _ (fun Q E hQ => name04 _ _ _ _ _ _ _ _ (by with_reducible assumption) Q E (by k_in) (Top.keeps (by assumption) (Fr.keep (by k_asm))) hQ) ?k1 ?k2 ?k3 ?k4 ?k5 ?k6 ?_; (case k1 => k_asm); (case k2 => k_asm); (case k3 => exact rfl); (case k4 => exact rfl); (case k5 => exact Nat.le_of_ble_eq_true rfl); (case k6 => exact Nat.le_of_ble_eq_true rfl); k_whole; intro zqhp zqtkp zqap zqip zqFp zqNp zqn1; (try dsimp only at zqNp); (try simp only [AllNe, and_true] at zqn1))))
  k_with "call ref" => ((k_here; (with_reducible show wpAny _ _ (call (Value.ref 96) [Value.str _ _]) _ _ _); k_dflt (refine' int_use (fun Q E hQ => line04 _ _ _ _ _ _ _ (by with_reducible assumption) Q E (by k_in) (Top.keeps (by assumption) (Fr.keep (by k_asm))) hQ) ?k1 ?k2 ?k3 ?k4 ?k5 ?k6 ?_; (case k1 => k_asm); (case k2 => k_asm); (case k3 => exact rfl); (case k4 => exact rfl); (case k5 => exact Nat.le_of_ble_eq_true rfl); (case k6 => exact Nat.le_of_ble_eq_true rfl); k_whole; intro zqhp zqtkp zqtp zqFp zqNp)))
  k_with "subscriptTail Name Slice str ref" => (((with_reducible show wpAny _ _ (subscriptTail _ (Expr.Slice (some _) none none _) _ _) _ _ _); (with_reducible rename Fr _ _ _ _ => F'); (with_reducible rename News _ _ _ _ => N'); refine cut_is (s := ⟨_, _, _, _, _⟩) (by with_reducible assumption) F' N' ?_; intro _ _ _ _ _))
  k_with "subscriptTail Name Constant ref int" => ((k_here; k_dflt (refine' item_lit ?k1 ?k2 ?k3 ?k4 ?k5 ?_; (case k1 => k_asm); (case k2 => k_mem); (case k3 => decide); (case k4 => decide); (case k5 => exact rfl))))
  k_with "ite" => ((k_here; first | (with_reducible refine if_known_t (by with_reducible assumption) ?_) | (with_reducible refine if_known_f (by with_reducible assumption) ?_)))
  trivial
theorem rowNO : ∀ {p : Program} {loose : List Str} {mean : ExcName → Option Value} {mg mb : Str → Option Value} (w : World) (s : Shared) (x : Str) (t : Tok) (hl : x.length ≤ 1000) (h1 : (Txt.slice x none (some (19)) == Str.ofString "While reading from ") = false) (o : Str) (sec : Str) (e3 : Int) (e2 : Int) (h2 : (Txt.slice x none (some (7)) == Str.ofString "Option ") = true) (h3 : NameAt x 7 o e2) (h4 : (Txt.slice x (some (e2 + 1)) (some (e2 + 1 + 12)) != Str.ofString " in section ") = false) (h5 : NameAt x (e2 + 1 + 12) sec e3) (h6 : (Txt.slice x (some (e3 + 1)) none != Str.ofString " already exists") = false)
    (Q E : Value → Shared → Prop) (KX : (hz.heap_137 w.params).In s.heap) (T : Top p loose mean mg mb s.heap)
    (hQ : ∀ h' tk (a : Addr) (u1 u2 u3 u4 : Tok), Grow s.heap h' → h'.get? a = some (listOf #[.str o u1, .str sec u2, .none, .none] 0) → s.heap.get? a = none → Q (.ref a) { s with heap := h', toks := tk }),
    wpAny (model PySem.Challenge.rw_dm0028_04.prog w) (AD 590 1900) (call (.ref 103) [.str x t]) Q E s := by
  w_top off
  k_fill
  intro p loose mean mg mb w s x t hl h1 o sec e3 e2 h2 h3 h4 h5 h6 Q E KX T hQ
  obtain ⟨hh, g, dr, tk, os⟩ := s
  dsimp only at KX T  hQ
  w_strict (
  refine wpAny_call ?_
  k_dflt (refine' enter_new (h₀ := hh) (binds := [("words", .str x t)]) (news := []) ?k1 ?k2 KX T.nolimit ?k9 ?k5 ?k6 ?k7 ?k8 ?kB ?c2 ?c3 ?c4 ?c5 ?_; (case k5 => k_is); (case k6 => k_is); (case k7 => exact Nat.le_of_ble_eq_true rfl); (case k8 => first | exact BindsTo.of_eq rfl | exact binds_K KX rfl (by k_is) rfl rfl rfl); (case c5 => decide); (case kB => exact locs rfl); (case c2 => exact rfl); (case c3 => exact rfl); (case c4 => exact rfl); (case k1 => exact fun _ _ e => e); (case k2 => exact Nat.le_refl _); (case k9 => exact List.forall_mem_nil _))
  intro L' h' tk' F' N' l1
  walk_at "mine texts"
  have hl2 := NameAt.len (by assumption : NameAt x _ sec e3)
  have he3 := NameAt.elo (by assumption : NameAt x _ sec e3)
  have he4 := NameAt.ehi (by assumption : NameAt x _ sec e3)
  have he5 := NameAt.elo (by assumption : NameAt x 7 o e2)
  have he6 := NameAt.ehi (by assumption : NameAt x 7 o e2)
  k_steps
  (with_reducible rename Fr _ _ _ _ => Fz)
  (with_reducible rename News _ _ _ _ => Nz)
  have Nh := Nz _ (.head _)
  dsimp only at Nh
  exact hQ _ _ _ _ _ 0 0 Fz.keep Nh.1 Nh.2.2)
theorem rowNS : ∀ {p : Program} {loose : List Str} {mean : ExcName → Option Value} {mg mb : Str → Option Value} (w : World) (s : Shared) (x : Str) (t : Tok) (hl : x.length ≤ 1000) (h1 : (Txt.slice x none (some (19)) == Str.ofString "While reading from ") = false) (sec : Str) (e3 : Int) (h2 : (Txt.slice x none (some (7)) == Str.ofString "Option ") = false) (h3 : (Txt.slice x none (some (8)) == Str.ofString "Section ") = true) (h4 : NameAt x 8 sec e3) (h5 : (Txt.slice x (some (e3 + 1)) none != Str.ofString " already exists") = false)
    (Q E : Value → Shared → Prop) (KX : (hz.heap_137 w.params).In s.heap) (T : Top p loose mean mg mb s.heap)
    (hQ : ∀ h' tk (a : Addr) (u1 u2 u3 u4 : Tok), Grow s.heap h' → h'.get? a = some (listOf #[.str (Str.ofString "") u1, .str sec u2, .none, .none] 0) → s.heap.get? a = none → Q (.ref a) { s with heap := h', toks := tk }),
    wpAny (model PySem.Challenge.rw_dm0028_04.prog w) (AD 590 1900) (call (.ref 103) [.str x t]) Q E s := by
  w_top off
  k_fill
  intro p loose mean mg mb w s x t hl h1 sec e3 h2 h3 h4 h5 Q E KX T hQ
  obtain ⟨hh, g, dr, tk, os⟩ := s
  dsimp only at KX T  hQ
  w_strict (
  refine wpAny_call ?_
  k_dflt (refine' enter_new (h₀ := hh) (binds := [("words", .str x t)]) (news := []) ?k1 ?k2 KX T.nolimit ?k9 ?k5 ?k6 ?k7 ?k8 ?kB ?c2 ?c3 ?c4 ?c5 ?_; (case k5 => k_is); (case k6 => k_is); (case k7 => exact Nat.le_of_ble_eq_true rfl); (case k8 => first | exact BindsTo.of_eq rfl | exact binds_K KX rfl (by k_is) rfl rfl rfl); (case c5 => decide); (case kB => exact locs rfl); (case c2 => exact rfl); (case c3 => exact rfl); (case c4 => exact rfl); (case k1 => exact fun _ _ e => e); (case k2 => exact Nat.le_refl _); (case k9 => exact List.forall_mem_nil _))
  intro L' h' tk' F' N' l1
  walk_at "mine texts"
  have hl2 := NameAt.len (by assumption : NameAt x _ sec e3)
  have he3 := NameAt.elo (by assumption : NameAt x _ sec e3)
  have he4 := NameAt.ehi (by assumption : NameAt x _ sec e3)
  k_steps
  (with_reducible rename Fr _ _ _ _ => Fz)
  (with_reducible rename News _ _ _ _ => Nz)
  have Nh := Nz _ (.head _)
  dsimp only at Nh
  exact hQ _ _ _ _ _ 0 0 Fz.keep Nh.1 Nh.2.2)
theorem rowLO : ∀ {p : Program} {loose : List Str} {mean : ExcName → Option Value} {mg mb : Str → Option Value} (w : World) (s : Shared) (x : Str) (t : Tok) (hl : x.length ≤ 1000) (h1 : (Txt.slice x none (some (19)) == Str.ofString "While reading from ") = true) (src : Str) (e : Int) (h2 : NameAt x 19 src e) (h3 : (Txt.slice x (some (e + 1)) (some (e + 1 + 7)) == Str.ofString " [line ") = true) (lo : Int) (hi : Int) (k : Int) (h4 : LineAt (Txt.slice x (some (e + 1 + 7)) (some (e + 1 + 9))) lo hi k) (h5 : (Txt.slice x (some (e + 1 + 9)) (some (e + 1 + 10)) != Str.ofString "]") = false) (h6 : (Txt.slice x (some (e + 1 + 10)) (some (e + 1 + 10 + 2)) != Str.ofString ": ") = false) (y : Str) (h7 : CutAt x (e + 1 + 10 + 2) y) (o : Str) (sec : Str) (e3 : Int) (e2 : Int) (h8 : (Txt.slice y none (some (7)) == Str.ofString "option ") = true) (h9 : NameAt y 7 o e2) (h10 : (Txt.slice y (some (e2 + 1)) (some (e2 + 1 + 12)) != Str.ofString " in section ") = false) (h11 : NameAt y (e2 + 1 + 12) sec e3) (h12 : (Txt.slice y (some (e3 + 1)) none != Str.ofString " already exists") = false)
    (Q E : Value → Shared → Prop) (KX : (hz.heap_137 w.params).In s.heap) (T : Top p loose mean mg mb s.heap)
    (hQ : ∀ h' tk (a : Addr) (u1 u2 u3 u4 : Tok), Grow s.heap h' → h'.get? a = some (listOf #[.str o u1, .str sec u2, .str src u3, .int k u4] 0) → s.heap.get? a = none → Q (.ref a) { s with heap := h', toks := tk }),
    wpAny (model PySem.Challenge.rw_dm0028_04.prog w) (AD 590 1900) (call (.ref 103) [.str x t]) Q E s := by
  w_top off
  k_fill
  intro p loose mean mg mb w s x t hl h1 src e h2 h3 lo hi k h4 h5 h6 y h7 o sec e3 e2 h8 h9 h10 h11 h12 Q E KX T hQ
  obtain ⟨hh, g, dr, tk, os⟩ := s
  dsimp only at KX T  hQ
  w_strict (
  refine wpAny_call ?_
  k_dflt (refine' enter_new (h₀ := hh) (binds := [("words", .str x t)]) (news := []) ?k1 ?k2 KX T.nolimit ?k9 ?k5 ?k6 ?k7 ?k8 ?kB ?c2 ?c3 ?c4 ?c5 ?_; (case k5 => k_is); (case k6 => k_is); (case k7 => exact Nat.le_of_ble_eq_true rfl); (case k8 => first | exact BindsTo.of_eq rfl | exact binds_K KX rfl (by k_is) rfl rfl rfl); (case c5 => decide); (case kB => exact locs rfl); (case c2 => exact rfl); (case c3 => exact rfl); (case c4 => exact rfl); (case k1 => exact fun _ _ e => e); (case k2 => exact Nat.le_refl _); (case k9 => exact List.forall_mem_nil _))
  intro L' h' tk' F' N' l1
  walk_at "mine texts"
  have hl2 := NameAt.len (by assumption : NameAt y _ sec e3)
  have he1 := NameAt.elo (by assumption : NameAt x 19 src e)
  have he2 := NameAt.ehi (by assumption : NameAt x 19 src e)
  have he3 := NameAt.elo (by assumption : NameAt y _ sec e3)
  have he4 := NameAt.ehi (by assumption : NameAt y _ sec e3)
  have he5 := NameAt.elo (by assumption : NameAt y 7 o e2)
  have he6 := NameAt.ehi (by assumption : NameAt y 7 o e2)
  k_steps
  (with_reducible rename Fr _ _ _ _ => Fz)
  (with_reducible rename News _ _ _ _ => Nz)
  have Nh := Nz _ (.head _)
  dsimp only at Nh
  exact hQ _ _ _ _ _ _ _ Fz.keep Nh.1 Nh.2.2)
theorem rowLS : ∀ {p : Program} {loose : List Str} {mean : ExcName → Option Value} {mg mb : Str → Option Value} (w : World) (s : Shared) (x : Str) (t : Tok) (hl : x.length ≤ 1000) (h1 : (Txt.slice x none (some (19)) == Str.ofString "While reading from ") = true) (src : Str) (e : Int) (h2 : NameAt x 19 src e) (h3 : (Txt.slice x (some (e + 1)) (some (e + 1 + 7)) == Str.ofString " [line ") = true) (lo : Int) (hi : Int) (k : Int) (h4 : LineAt (Txt.slice x (some (e + 1 + 7)) (some (e + 1 + 9))) lo hi k) (h5 : (Txt.slice x (some (e + 1 + 9)) (some (e + 1 + 10)) != Str.ofString "]") = false) (h6 : (Txt.slice x (some (e + 1 + 10)) (some (e + 1 + 10 + 2)) != Str.ofString ": ") = false) (y : Str) (h7 : CutAt x (e + 1 + 10 + 2) y) (sec : Str) (e3 : Int) (h8 : (Txt.slice y none (some (7)) == Str.ofString "option ") = false) (h9 : (Txt.slice y none (some (8)) == Str.ofString "section ") = true) (h10 : NameAt y 8 sec e3) (h11 : (Txt.slice y (some (e3 + 1)) none != Str.ofString " already exists") = false)
    (Q E : Value → Shared → Prop) (KX : (hz.heap_137 w.params).In s.heap) (T : Top p loose mean mg mb s.heap)
    (hQ : ∀ h' tk (a : Addr) (u1 u2 u3 u4 : Tok), Grow s.heap h' → h'.get? a = some (listOf #[.str (Str.ofString "") u1, .str sec u2, .str src u3, .int k u4] 0) → s.heap.get? a = none → Q (.ref a) { s with heap := h', toks := tk }),
    wpAny (model PySem.Challenge.rw_dm0028_04.prog w) (AD 590 1900) (call (.ref 103) [.str x t]) Q E s := by
  w_top off
  k_fill
  intro p loose mean mg mb w s x t hl h1 src e h2 h3 lo hi k h4 h5 h6 y h7 sec e3 h8 h9 h10 h11 Q E KX T hQ
  obtain ⟨hh, g, dr, tk, os⟩ := s
  dsimp only at KX T  hQ
  w_strict (
  refine wpAny_call ?_
  k_dflt (refine' enter_new (h₀ := hh) (binds := [("words", .str x t)]) (news := []) ?k1 ?k2 KX T.nolimit ?k9 ?k5 ?k6 ?k7 ?k8 ?kB ?c2 ?c3 ?c4 ?c5 ?_; (case k5 => k_is); (case k6 => k_is); (case k7 => exact Nat.le_of_ble_eq_true rfl); (case k8 => first | exact BindsTo.of_eq rfl | exact binds_K KX rfl (by k_is) rfl rfl rfl); (case c5 => decide); (case kB => exact locs rfl); (case c2 => exact rfl); (case c3 => exact rfl); (case c4 => exact rfl); (case k1 => exact fun _ _ e => e); (case k2 => exact Nat.le_refl _); (case k9 => exact List.forall_mem_nil _))
  intro L' h' tk' F' N' l1
  walk_at "mine texts"
  have hl2 := NameAt.len (by assumption : NameAt y _ sec e3)
  have he1 := NameAt.elo (by assumption : NameAt x 19 src e)
  have he2 := NameAt.ehi (by assumption : NameAt x 19 src e)
  have he3 := NameAt.elo (by assumption : NameAt y _ sec e3)
  have he4 := NameAt.ehi (by assumption : NameAt y _ sec e3)
  k_steps
  (with_reducible rename Fr _ _ _ _ => Fz)
  (with_reducible rename News _ _ _ _ => Nz)
  have Nh := Nz _ (.head _)
  dsimp only at Nh
  exact hQ _ _ _ _ _ _ _ Fz.keep Nh.1 Nh.2.2)
theorem rowPO : ∀ {p : Program} {loose : List Str} {mean : ExcName → Option Value} {mg mb : Str → Option Value} (w : World) (s : Shared) (x : Str) (t : Tok) (hl : x.length ≤ 1000) (h1 : (Txt.slice x none (some (19)) == Str.ofString "While reading from ") = true) (src : Str) (e : Int) (h2 : NameAt x 19 src e) (h3 : (Txt.slice x (some (e + 1)) (some (e + 1 + 7)) == Str.ofString " [line ") = false) (h4 : (Txt.slice x (some (e + 1)) (some (e + 1 + 2)) != Str.ofString ": ") = false) (y : Str) (h5 : CutAt x (e + 1 + 2) y) (o : Str) (sec : Str) (e3 : Int) (e2 : Int) (h6 : (Txt.slice y none (some (7)) == Str.ofString "option ") = true) (h7 : NameAt y 7 o e2) (h8 : (Txt.slice y (some (e2 + 1)) (some (e2 + 1 + 12)) != Str.ofString " in section ") = false) (h9 : NameAt y (e2 + 1 + 12) sec e3) (h10 : (Txt.slice y (some (e3 + 1)) none != Str.ofString " already exists") = false)
    (Q E : Value → Shared → Prop) (KX : (hz.heap_137 w.params).In s.heap) (T : Top p loose mean mg mb s.heap)
    (hQ : ∀ h' tk (a : Addr) (u1 u2 u3 u4 : Tok), Grow s.heap h' → h'.get? a = some (listOf #[.str o u1, .str sec u2, .str src u3, .none] 0) → s.heap.get? a = none → Q (.ref a) { s with heap := h', toks := tk }),
    wpAny (model PySem.Challenge.rw_dm0028_04.prog w) (AD 590 1900) (call (.ref 103) [.str x t]) Q E s := by
  w_top off
  k_fill
  intro p loose mean mg mb w s x t hl h1 src e h2 h3 h4 y h5 o sec e3 e2 h6 h7 h8 h9 h10 Q E KX T hQ
  obtain ⟨hh, g, dr, tk, os⟩ := s
  dsimp only at KX T  hQ
  w_strict (
  refine wpAny_call ?_
  k_dflt (refine' enter_new (h₀ := hh) (binds := [("words", .str x t)]) (news := []) ?k1 ?k2 KX T.nolimit ?k9 ?k5 ?k6 ?k7 ?k8 ?kB ?c2 ?c3 ?c4 ?c5 ?_; (case k5 => k_is); (case k6 => k_is); (case k7 => exact Nat.le_of_ble_eq_true rfl); (case k8 => first | exact BindsTo.of_eq rfl | exact binds_K KX rfl (by k_is) rfl rfl rfl); (case c5 => decide); (case kB => exact locs rfl); (case c2 => exact rfl); (case c3 => exact rfl); (case c4 => exact rfl); (case k1 => exact fun _ _ e => e); (case k2 => exact Nat.le_refl _); (case k9 => exact List.forall_mem_nil _))
  intro L' h' tk' F' N' l1
  walk_at "mine texts"
  have hl2 := NameAt.len (by assumption : NameAt y _ sec e3)
  have he1 := NameAt.elo (by assumption : NameAt x 19 src e)
  have he2 := NameAt.ehi (by assumption : NameAt x 19 src e)
  have he3 := NameAt.elo (by assumption : NameAt y _ sec e3)
  have he4 := NameAt.ehi (by assumption : NameAt y _ sec e3)
  have he5 := NameAt.elo (by assumption : NameAt y 7 o e2)
  have he6 := NameAt.ehi (by assumption : NameAt y 7 o e2)
  k_steps
  (with_reducible rename Fr _ _ _ _ => Fz)
  (with_reducible rename News _ _ _ _ => Nz)
  have Nh := Nz _ (.head _)
  dsimp only at Nh
  exact hQ _ _ _ _ _ _ 0 Fz.keep Nh.1 Nh.2.2)
theorem rowPS : ∀ {p : Program} {loose : List Str} {mean : ExcName → Option Value} {mg mb : Str → Option Value} (w : World) (s : Shared) (x : Str) (t : Tok) (hl : x.length ≤ 1000) (h1 : (Txt.slice x none (some (19)) == Str.ofString "While reading from ") = true) (src : Str) (e : Int) (h2 : NameAt x 19 src e) (h3 : (Txt.slice x (some (e + 1)) (some (e + 1 + 7)) == Str.ofString " [line ") = false) (h4 : (Txt.slice x (some (e + 1)) (some (e + 1 + 2)) != Str.ofString ": ") = false) (y : Str) (h5 : CutAt x (e + 1 + 2) y) (sec : Str) (e3 : Int) (h6 : (Txt.slice y none (some (7)) == Str.ofString "option ") = false) (h7 : (Txt.slice y none (some (8)) == Str.ofString "section ") = true) (h8 : NameAt y 8 sec e3) (h9 : (Txt.slice y (some (e3 + 1)) none != Str.ofString " already exists") = false)
    (Q E : Value → Shared → Prop) (KX : (hz.heap_137 w.params).In s.heap) (T : Top p loose mean mg mb s.heap)
    (hQ : ∀ h' tk (a : Addr) (u1 u2 u3 u4 : Tok), Grow s.heap h' → h'.get? a = some (listOf #[.str (Str.ofString "") u1, .str sec u2, .str src u3, .none] 0) → s.heap.get? a = none → Q (.ref a) { s with heap := h', toks := tk }),
    wpAny (model PySem.Challenge.rw_dm0028_04.prog w) (AD 590 1900) (call (.ref 103) [.str x t]) Q E s := by
  w_top off
  k_fill
  intro p loose mean mg mb w s x t hl h1 src e h2 h3 h4 y h5 sec e3 h6 h7 h8 h9 Q E KX T hQ
  obtain ⟨hh, g, dr, tk, os⟩ := s
  dsimp only at KX T  hQ
  w_strict (
  refine wpAny_call ?_
  k_dflt (refine' enter_new (h₀ := hh) (binds := [("words", .str x t)]) (news := []) ?k1 ?k2 KX T.nolimit ?k9 ?k5 ?k6 ?k7 ?k8 ?kB ?c2 ?c3 ?c4 ?c5 ?_; (case k5 => k_is); (case k6 => k_is); (case k7 => exact Nat.le_of_ble_eq_true rfl); (case k8 => first | exact BindsTo.of_eq rfl | exact binds_K KX rfl (by k_is) rfl rfl rfl); (case c5 => decide); (case kB => exact locs rfl); (case c2 => exact rfl); (case c3 => exact rfl); (case c4 => exact rfl); (case k1 => exact fun _ _ e => e); (case k2 => exact Nat.le_refl _); (case k9 => exact List.forall_mem_nil _))
  intro L' h' tk' F' N' l1
  walk_at "mine texts"
  have hl2 := NameAt.len (by assumption : NameAt y _ sec e3)
  have he1 := NameAt.elo (by assumption : NameAt x 19 src e)
  have he2 := NameAt.ehi (by assumption : NameAt x 19 src e)
  have he3 := NameAt.elo (by assumption : NameAt y _ sec e3)
  have he4 := NameAt.ehi (by assumption : NameAt y _ sec e3)
  k_steps
  (with_reducible rename Fr _ _ _ _ => Fz)
  (with_reducible rename News _ _ _ _ => Nz)
  have Nh := Nz _ (.head _)
  dsimp only at Nh
  exact hQ _ _ _ _ _ _ 0 Fz.keep Nh.1 Nh.2.2)
end
section
theorem lay9 : True := by
  k_with_none
  k_with "ne" => (with_reducible (first | exact ns1 | exact ns2 | exact qlt (by assumption) | exact qgt (by assumption) | exact qne (by assumption) | exact qen (by assumption) | exact rlt (by assumption) | exact rgt (by assumption) | exact rne (by assumption) | exact ren (by assumption) | exact qlt (And.right (by assumption)) | exact qgt (And.right (by assumption)) | exact qne (And.right (by assumption)) | exact qen (And.right (by assumption)) | exact rlt (And.right (by assumption)) | exact rgt (And.right (by assumption)) | exact rne (And.right (by assumption)) | exact ren (And.right (by assumption)) | exact qlt (And.right (And.right (by assumption))) | exact qgt (And.right (And.right (by assumption))) | exact qne (And.right (And.right (by assumption))) | exact qen (And.right (And.right (by assumption))) | exact rlt (And.right (And.right (by assumption))) | exact rgt (And.right (And.right (by assumption))) | exact rne (And.right (And.right (by assumption))) | exact ren (And.right (And.right (by assumption))) | exact qlt (And.right (And.right (And.right (by assumption)))) | exact qgt (And.right (And.right (And.right (by assumption)))) | exact qne (And.right (And.right (And.right (by assumption)))) | exact qen (And.right (And.right (And.right (by assumption)))) | exact rlt (And.right (And.right (And.right (by assumption)))) | exact rgt (And.right (And.right (And.right (by assumption)))) | exact rne (And.right (And.right (And.right (by assumption)))) | exact ren (And.right (And.right (And.right (by assumption)))) | exact qlt (And.right (And.right (And.right (And.right (by assumption))))) | exact qgt (And.right (And.right (And.right (And.right (by assumption))))) | exact qne (And.right (And.right (And.right (And.right (by assumption))))) | exact qen (And.right (And.right (And.right (And.right (by assumption))))) | exact rlt (And.right (And.right (And.right (And.right (by assumption))))) | exact rgt (And.right (And.right (And.right (And.right (by assumption))))) | exact rne (And.right (And.right (And.right (And.right (by assumption))))) | exact ren (And.right (And.right (And.right (And.right (by assumption))))) | exact qlt (And.right (And.right (And.right (And.right (And.right (by assumption)))))) | exact qgt (And.right (And.right (And.right (And.right (And.right (by assumption)))))) | exact qne (And.right (And.right (And.right (And.right (And.right (by assumption)))))) | exact qen (And.right (And.right (And.right (And.right (And.right (by assumption)))))) | exact rlt (And.right (And.right (And.right (And.right (And.right (by assumption)))))) | exact rgt (And.right (And.right (And.right (And.right (And.right (by assumption)))))) | exact rne (And.right (And.right (And.right (And.right (And.right (by assumption)))))) | exact ren (And.right (And.right (And.right (And.right (And.right (by assumption)))))) | exact qlt (And.right (And.right (And.right (And.right (And.right (And.right (by assumption))))))) | exact qgt (And.right (And.right (And.right (And.right (And.right (And.right (by assumption))))))) | exact qne (And.right (And.right (And.right (And.right (And.right (And.right (by assumption))))))) | exact qen (And.right (And.right (And.right (And.right (And.right (And.right (by assumption))))))) | exact rlt (And.right (And.right (And.right (And.right (And.right (And.right (by assumption))))))) | exact rgt (And.right (And.right (And.right (And.right (And.right (And.right (by assumption))))))) | exact rne (And.right (And.right (And.right (And.right (And.right (And.right (by assumption))))))) | exact ren (And.right (And.right (And.right (And.right (And.right (And.right (by assumption))))))) | exact qlt (And.right (And.right (And.right (And.right (And.right (And.right (And.right (by assumption)))))))) | exact qgt (And.right (And.right (And.right (And.right (And.right (And.right (And.right (by assumption)))))))) | exact qne (And.right (And.right (And.right (And.right (And.right (And.right (And.right (by assumption)))))))) | exact qen (And.right (And.right (And.right (And.right (And.right (And.right (And.right (by assumption)))))))) | exact rlt (And.right (And.right (And.right (And.right (And.right (And.right (And.right (by assumption)))))))) | exact rgt (And.right (And.right (And.right (And.right (And.right (And.right (And.right (by assumption)))))))) | exact rne (And.right (And.right (And.right (And.right (And.right (And.right (And.right (by assumption)))))))) | exact ren (And.right (And.right (And.right (And.right (And.right (And.right (And.right (by assumption)))))))) | exact qlt (And.right (And.right (And.right (And.right (And.right (And.right (And.right (And.right (by assumption))))))))) | exact qgt (And.right (And.right (And.right (And.right (And.right (And.right (And.right (And.right (by assumption))))))))) | exact qne (And.right (And.right (And.right (And.right (And.right (And.right (And.right (And.right (by assumption))))))))) | exact qen (And.right (And.right (And.right (And.right (And.right (And.right (And.right (And.right (by assumption))))))))) | exact rlt (And.right (And.right (And.right (And.right (And.right (And.right (And.right (And.right (by assumption))))))))) | exact rgt (And.right (And.right (And.right (And.right (And.right (And.right (And.right (And.right (by assumption))))))))) | exact rne (And.right (And.right (And.right (And.right (And.right (And.right (And.right (And.right (by assumption))))))))) | exact ren (And.right (And.right (And.right (And.right (And.right (And.right (And.right (And.right (by assumption))))))))) | exact qlt (And.right (And.right (And.right (And.right (And.right (And.right (And.right (And.right (And.right (by assumption)))))))))) | exact qgt (And.right (And.right (And.right (And.right (And.right (And.right (And.right (And.right (And.right (by assumption)))))))))) | exact qne (And.right (And.right (And.right (And.right (And.right (And.right (And.right (And.right (And.right (by assumption)))))))))) | exact qen (And.right (And.right (And.right (And.right (And.right (And.right (And.right (And.right (And.right (by assumption)))))))))) | exact rlt (And.right (And.right (And.right (And.right (And.right (And.right (And.right (And.right (And.right (by assumption)))))))))) | exact rgt (And.right (And.right (And.right (And.right (And.right (And.right (And.right (And.right (And.right (by assumption)))))))))) | exact rne (And.right (And.right (And.right (And.right (And.right (And.right (And.right (And.right (And.right (by assumption)))))))))) | exact ren (And.right (And.right (And.right (And.right (And.right (And.right (And.right (And.right (And.right (by assumption)))))))))) | exact qlt (And.right (And.right (And.right (And.right (And.right (And.right (And.right (And.right (And.right (And.right (by assumption))))))))))) | exact qgt (And.right (And.right (And.right (And.right (And.right (And.right (And.right (And.right (And.right (And.right (by assumption))))))))))) | exact qne (And.right (And.right (And.right (And.right (And.right (And.right (And.right (And.right (And.right (And.right (by assumption))))))))))) | exact qen (And.right (And.right (And.right (And.right (And.right (And.right (And.right (And.right (And.right (And.right (by assumption))))))))))) | exact rlt (And.right (And.right (And.right (And.right (And.right (And.right (And.right (And.right (And.right (And.right (by assumption))))))))))) | exact rgt (And.right (And.right (And.right (And.right (And.right (And.right (And.right (And.right (And.right (And.right (by assumption))))))))))) | exact rne (And.right (And.right (And.right (And.right (And.right (And.right (And.right (And.right (And.right (And.right (by assumption))))))))))) | exact ren (And.right (And.right (And.right (And.right (And.right (And.right (And.right (And.right (And.right (And.right (by assumption))))))))))) | exact qlt (And.right (And.right (And.right (And.right (And.right (And.right (And.right (And.right (And.right (And.right (And.right (by assumption)))))))))))) | exact qgt (And.right (And.right (And.right (And.right (And.right (And.right (And.right (And.right (And.right (And.right (And.right (by assumption)))))))))))) | exact qne (And.right (And.right (And.right (And.right (And.right (And.right (And.right (And.right (And.right (And.right (And.right (by assumption)))))))))))) | exact qen (And.right (And.right (And.right (And.right (And.right (And.right (And.right (And.right (And.right (And.right (And.right (by assumption)))))))))))) | exact rlt (And.right (And.right (And.right (And.right (And.right (And.right (And.right (And.right (And.right (And.right (And.right (by assumption)))))))))))) | exact rgt (And.right (And.right (And.right (And.right (And.right (And.right (And.right (And.right (And.right (And.right (And.right (by assumption)))))))))))) | exact rne (And.right (And.right (And.right (And.right (And.right (And.right (And.right (And.right (And.right (And.right (And.right (by assumption)))))))))))) | exact ren (And.right (And.right (And.right (And.right (And.right (And.right (And.right (And.right (And.right (And.right (And.right (by assumption)))))))))))) | exact qlt (And.right (And.right (And.right (And.right (And.right (And.right (And.right (And.right (And.right (And.right (And.right (And.right (by assumption))))))))))))) | exact qgt (And.right (And.right (And.right (And.right (And.right (And.right (And.right (And.right (And.right (And.right (And.right (And.right (by assumption))))))))))))) | exact qne (And.right (And.right (And.right (And.right (And.right (And.right (And.right (And.right (And.right (And.right (And.right (And.right (by assumption))))))))))))) | exact qen (And.right (And.right (And.right (And.right (And.right (And.right (And.right (And.right (And.right (And.right (And.right (And.right (by assumption))))))))))))) | exact rlt (And.right (And.right (And.right (And.right (And.right (And.right (And.right (And.right (And.right (And.right (And.right (And.right (by assumption))))))))))))) | exact rgt (And.right (And.right (And.right (And.right (And.right (And.right (And.right (And.right (And.right (And.right (And.right (And.right (by assumption))))))))))))) | exact rne (And.right (And.right (And.right (And.right (And.right (And.right (And.right (And.right (And.right (And.right (And.right (And.right (by assumption))))))))))))) | exact ren (And.right (And.right (And.right (And.right (And.right (And.right (And.right (And.right (And.right (And.right (And.right (And.right (by assumption))))))))))))) | exact qlt (And.right (And.right (And.right (And.right (And.right (And.right (And.right (And.right (And.right (And.right (And.right (And.right (And.right (by assumption)))))))))))))) | exact qgt (And.right (And.right (And.right (And.right (And.right (And.right (And.right (And.right (And.right (And.right (And.right (And.right (And.right (by assumption)))))))))))))) | exact qne (And.right (And.right (And.right (And.right (And.right (And.right (And.right (And.right (And.right (And.right (And.right (And.right (And.right (by assumption)))))))))))))) | exact qen (And.right (And.right (And.right (And.right (And.right (And.right (And.right (And.right (And.right (And.right (And.right (And.right (And.right (by assumption)))))))))))))) | exact rlt (And.right (And.right (And.right (And.right (And.right (And.right (And.right (And.right (And.right (And.right (And.right (And.right (And.right (by assumption)))))))))))))) | exact rgt (And.right (And.right (And.right (And.right (And.right (And.right (And.right (And.right (And.right (And.right (And.right (And.right (And.right (by assumption)))))))))))))) | exact rne (And.right (And.right (And.right (And.right (And.right (And.right (And.right (And.right (And.right (And.right (And.right (And.right (And.right (by assumption)))))))))))))) | exact ren (And.right (And.right (And.right (And.right (And.right (And.right (And.right (And.right (And.right (And.right (And.right (And.right (And.right (by assumption)))))))))))))) | exact qlt (And.right (And.right (And.right (And.right (And.right (And.right (And.right (And.right (And.right (And.right (And.right (And.right (And.right (And.right (by assumption))))))))))))))) | exact qgt (And.right (And.right (And.right (And.right (And.right (And.right (And.right (And.right (And.right (And.right (And.right (And.right (And.right (And.right (by assumption))))))))))))))) | exact qne (And.right (And.right (And.right (And.right (And.right (And.right (And.right (And.right (And.right (And.right (And.right (And.right (And.right (And.right (by assumption))))))))))))))) | exact qen (And.right (And.right (And.right (And.right (And.right (And.right (And.right (And.right (And.right (And.right (And.right (And.right (And.right (And.right (by assumption))))))))))))))) | exact rlt (And.right (And.right (And.right (And.right (And.right (And.right (And.right (And.right (And.right (And.right (And.right (And.right (And.right (And.right (by assumption))))))))))))))) | exact rgt (And.right (And.right (And.right (And.right (And.right (And.right (And.right (And.right (And.right (And.right (And.right (And.right (And.right (And.right (by assumption))))))))))))))) | exact rne (And.right (And.right (And.right (And.right (And.right (And.right (And.right (And.right (And.right (And.right (And.right (And.right (And.right (And.right (by assumption))))))))))))))) | exact ren (And.right (And.right (And.right (And.right (And.right (And.right (And.right (And.right (And.right (And.right (And.right (And.right (And.right (And.right (by assumption))))))))))))))) | exact qlt (And.right (And.right (And.right (And.right (And.right (And.right (And.right (And.right (And.right (And.right (And.right (And.right (And.right (And.right (And.right (by assumption)))))))))))))))) | exact qgt (And.right (And.right (And.right (And.right (And.right (And.right (And.right (And.right (And.right (And.right (And.right (And.right (And.right (And.right (And.right (by assumption)))))))))))))))) | exact qne (And.right (And.right (And.right (And.right (And.right (And.right (And.right (And.right (And.right (And.right (And.right (And.right (And.right (And.right (And.right (by assumption)))))))))))))))) | exact qen (And.right (And.right (And.right (And.right (And.right (And.right (And.right (And.right (And.right (And.right (And.right (And.right (And.right (And.right (And.right (by assumption)))))))))))))))) | exact rlt (And.right (And.right (And.right (And.right (And.right (And.right (And.right (And.right (And.right (And.right (And.right (And.right (And.right (And.right (And.right (by assumption)))))))))))))))) | exact rgt (And.right (And.right (And.right (And.right (And.right (And.right (And.right (And.right (And.right (And.right (And.right (And.right (And.right (And.right (And.right (by assumption)))))))))))))))) | exact rne (And.right (And.right (And.right (And.right (And.right (And.right (And.right (And.right (And.right (And.right (And.right (And.right (And.right (And.right (And.right (by assumption)))))))))))))))) | exact ren (And.right (And.right (And.right (And.right (And.right (And.right (And.right (And.right (And.right (And.right (And.right (And.right (And.right (And.right (And.right (by assumption))))))))))))))))))
  trivial
theorem lay10 : True := by
  k_with "mine texts" => ((try dsimp only [← sx0, ← sx1, ← sx2, ← sx3, ← sx4, ← sx5, ← sx6, ← sx7, ← sx8, ← sx9, ← sx10, ← sx11, ← sx12, ← sx13, ← sx14, ← sx15, ← sx16, ← sx17, ← sx18, ← sx19, ← sx20, ← sx21, ← sx22, ← sx23, ← sx24, ← sx25, ← sx26, ← sx27, ← sx28, ← sx29, ← sx30, ← sx31, ← sx32, ← sx33, ← sx34, ← sx35, ← sx36, ← sx37, ← sx38, ← sx39, ← sx40, ← sx41, ← sx42, ← sx43, ← sx44, ← sx45, ← sx46, ← sx47, ← sx48, ← sx49, ← sx50, ← sx51, ← sx52, ← sx53, ← sx54, ← sx55, ← sx56, ← sx57, ← sx58, ← sx59, ← sx60, ← sx61, ← sx62, ← sx63, ← sx64, ← sx65, ← sx66, ← sx67, ← sx68, ← sx69, ← sx70, ← sx71, ← sx72, ← sx73, ← sx74, ← sx75, ← sx76, ← sx77, ← sx78, ← sx79, ← sx80]))
  k_with "mine drop" => (first | (refine' Drop.head ?a; (case a => k_all)) | (refine' Drop.tail ?a ?b; (case a => k_ne); (case b => walk_at "mine drop")))
  k_with "setAttr ref" => ((k_here; k_dflt (first | (refine' exc_set0 ?k1 ?k2 ?k3 ?k4 ?k5 ?k6 ?k7 ?k8 ?k9 ?_; (case k1 => k_asm); (case k2 => k_asm); (case k3 => k_asm); (case k4 => k_mem); (case k5 => k_is); (case k6 => kernel_rfl); (case k7 => k_is); (case k8 => k_is); (case k9 => intro zqd; k_upd); k_whole; intro zqdp zqhp zqFp zqNp zql1; (try k_lt zql1)) | (refine' exc_set_args ?k1 ?k2 ?k3 ?k4 ?k5 ?k6 ?k7 ?k8 ?k9 ?k10 ?_; (case k1 => k_asm); (case k2 => k_asm); (case k3 => k_asm); (case k4 => first | (refine' InstAt.of_exc ?N ?h1 ?h2; (case N => k_asm); (case h1 => k_mem); (case h2 => k_mem)) | (refine' InstAt.of_exc0 ?N ?h1; (case N => k_asm); (case h1 => k_mem))); (case k5 => exact isTup_of (by k_asm) (by k_mem)); (case k6 => k_is); (case k7 => kernel_rfl); (case k8 => k_is); (case k9 => k_is); (case k10 => k_upd); k_whole; intro zqhp zqFp zqNp) | (refine' exc_set ?k1 ?k2 ?k3 ?k4 ?k5 ?k6 ?k7 ?k8 ?k9 ?k10 ?k11 ?k12 ?_; (case k1 => k_asm); (case k2 => k_asm); (case k3 => k_asm); (case k4 => first | (refine' InstAt.of_exc ?N ?h1 ?h2; (case N => k_asm); (case h1 => k_mem); (case h2 => k_mem)) | (refine' InstAt.of_exc0 ?N ?h1; (case N => k_asm); (case h1 => k_mem))); (case k5 => k_is); (case k6 => kernel_rfl); (case k7 => k_is); (case k8 => k_is); (case k9 => k_get); (case k10 => k_put); (case k11 => k_upd); (case k12 => exact Nat.le_of_ble_eq_true rfl); k_whole; intro zqhp zqFp zqNp))))
  k_with "call builtin:Exception.__init__" => ((k_here; k_dflt (refine' exc_init_call ?k1 ?k2 ?k3 ?k4 ?k5 ?k6 ?_; (case k1 => k_asm); (case k2 => k_asm); (case k3 => k_asm); (case k4 => first | (refine' InstAt.of_exc ?N ?h1 ?h2; (case N => k_asm); (case h1 => k_mem); (case h2 => k_mem)) | (refine' InstAt.of_exc0 ?N ?h1; (case N => k_asm); (case h1 => k_mem))); (case k5 => k_is); (case k6 => intro zqt; k_upd); k_whole; intro zqtp zqhp zqFp zqNp zql1; (try k_lt zql1))))
  k_with "call builtin:repr" => ((k_here; k_dflt (refine' repr_use ?k1 ?k2 ?k3 ?k4 ?k5 ?k6 ?k7 ?_; (case k1 => assumption); (case k2 => k_asm); (case k3 => k_asm); (case k4 => exact rfl); (case k5 => exact rfl); (case k6 => exact Nat.le_of_ble_eq_true rfl); (case k7 => exact Nat.le_of_ble_eq_true rfl); k_whole; intro zqhp zqup zqtkp zqFp zqNp)))
  k_with "BackIn" => ((k_dflt (refine' back_ ?k1 ?k2 ?k3 ?_; (case k1 => k_asm); (case k2 => k_asm); (case k3 => walk_at "mine drop"); k_whole; intro zqFp zqNp; (try dsimp only))))
  k_with "call ref" => ((k_here; k_dflt (refine wpAny_call ?_; refine' enter_in ?k1 ?k2 ?k3 ?k4 ?k5 ?k6 ?k7 ?k8 ?kB ?c2 ?c3 ?c4 ?c5 ?_; (case k1 => k_asm); (case k2 => k_asm); (case k3 => k_asm); (case k4 => exact Top.nolimit (by assumption)); (case k5 => k_is); (case k6 => k_is); (case k7 => exact Nat.le_of_ble_eq_true rfl); (case k8 => first | ((with_reducible show BindsTo _ _ ⟨[_], []⟩ _); first | exact BindsTo.of_eq (binds := [(_, _)]) rfl | exact binds_K (binds := [(_, _)]) (by k_in) rfl (by k_is) rfl rfl rfl) | ((with_reducible show BindsTo _ _ ⟨[_, _], []⟩ _); first | exact BindsTo.of_eq (binds := [(_, _), (_, _)]) rfl | exact binds_K (binds := [(_, _), (_, _)]) (by k_in) rfl (by k_is) rfl rfl rfl) | ((with_reducible show BindsTo _ _ ⟨[_, _, _], []⟩ _); first | exact BindsTo.of_eq (binds := [(_, _), (_, _), (_, _)]) rfl | exact binds_K (binds := [(_, _), (_, _), (_, _)]) (by k_in) rfl (by k_is) rfl rfl rfl) | ((with_reducible show BindsTo _ _ ⟨[_, _, _, _], []⟩ _); first | exact BindsTo.of_eq (binds := [(_, _), (_, _), (_, _), (_, _)]) rfl | exact binds_K (binds := [(_, _), (_, _), (_, _), (_, _)]) (by k_in) rfl (by k_is) rfl rfl rfl) | ((with_reducible show BindsTo _ _ ⟨[_, _, _, _, _], []⟩ _); first | exact BindsTo.of_eq (binds := [(_, _), (_, _), (_, _), (_, _), (_, _)]) rfl | exact binds_K (binds := [(_, _), (_, _), (_, _), (_, _), (_, _)]) (by k_in) rfl (by k_is) rfl rfl rfl)); (case c5 => decide); (case kB => exact locs rfl); (case c2 => exact rfl); (case c3 => exact rfl); (case c4 => exact rfl); k_whole; intro zqoLp zqLp zqhp zqtkp zqFp zqNp zql1 zqn1; (try k_lt zql1); (try (replace zqn1 := allNe_of zqn1; simp only [AllNe, and_true] at zqn1)); (try dsimp only); walk_at "mine texts")))
  k_with "call builtin:str.join" => ((k_here; (with_reducible show wpAny _ _ (call (Value.builtin "str.join") [Value.str _ _, Value.ref _]) _ _ _); k_dflt (refine join_listC (by is_list) (by repeat constructor) (by decide) (by (simp only [List.map_cons, List.map_nil, List.sum_cons, List.sum_nil, List.length_cons, List.length_nil]; omega)) ?_); intro zqtp zqkp))
  k_with "getMethod type:Exception" => ((k_here; refine' method_type ?F ?X ?m (by decide +kernel) ?e ?h ?_; (case F => k_asm); (case X => k_asm); (case m => exact meta_Exception); (case e => k_dflt k_is); (case h => k_handed)))
  k_with "compareOp IsNot" => ((k_here; k_dflt (refine isNot_none (by assumption) ?_)))
  k_with "call builtin:str.format" => ((k_here; k_dflt (refine' line_use ?k1 ?k2 ?k3 ?k4 ?k5 ?k6 ?k7 ?_; (case k1 => assumption); (case k2 => k_asm); (case k3 => k_asm); (case k4 => exact rfl); (case k5 => exact rfl); (case k6 => exact Nat.le_of_ble_eq_true rfl); (case k7 => exact Nat.le_of_ble_eq_true rfl); k_whole; intro zqhp zqup zqtkp zqFp zqNp)))
  k_with "call builtin:str.format" => ((k_here; (with_reducible show wpAny _ _ (call (Value.builtin "str.format") [Value.str _ _, _, _, _, _]) _ _ _); k_dflt (refine' fmt_use ?k1 ?k2 ?k3 ?k4 ?k5 ?_; (case k1 => k_asm); (case k2 => k_asm); (case k3 => exact ⟨rfl, rfl, Nat.le_of_ble_eq_true rfl, Nat.le_of_ble_eq_true rfl⟩); (case k4 => exact args_5 _ _ _ _ _); (case k5 => walk_at "mine fmt")); k_whole; intro zqhp zqup zqtkp zqFp zqNp))
  k_with "pyReprObj" => ((k_here; k_dflt (refine' reprObj_use ?k1 ?k2 ?k3 ?k4 ?k5 ?k6 ?k7 ?_; (case k1 => assumption); (case k2 => k_asm); (case k3 => k_asm); (case k4 => exact rfl); (case k5 => exact rfl); (case k6 => exact Nat.le_of_ble_eq_true rfl); (case k7 => exact Nat.le_of_ble_eq_true rfl); k_whole; intro zqhp zqup zqtkp zqFp zqNp)))
  k_with "assign Tuple" => ((k_here; (with_reducible show wpAny _ _ (assign (Expr.Tuple _ _ _) _ (Value.ref _)) _ _ _); k_dflt (refine' kun_list ?k1 ?k2 ?k3 ?k4 ?k5 ?k6 ?_; (case k1 => k_asm); (case k2 => k_asm); (case k3 => exact isl_grow (by with_reducible assumption) (Fr.keep (by k_asm))); (case k4 => exact rfl); (case k5 => exact rfl); (case k6 => exact rfl); k_whole); intro zqhp zqFp zqNp))
  trivial
theorem ckN : ∀ {p : Program} {loose : List Str} {mean : ExcName → Option Value} {mg mb : Str → Option Value} (w : World) (s : Shared) (r : Addr) (o sec : Str) (u1 u2 : Tok) (lv : Value) (hr : s.heap.IsList r #[.str o u1, .str sec u2, .none, lv])
    (Q E : Value → Shared → Prop) (KX : (hz.heap_137 w.params).In s.heap) (T : Top p loose mean mg mb s.heap)
    (hQ : ∀ h' tk (a : Addr) (kind : Int) (v1 v2 v3 v4 : Tok), Grow s.heap h' → kind = (if o = Str.ofString "" then 1 else 0) → h'.get? a = some (listOf #[.int kind v1, .str (Str.ofString "") v2, .int 0 v3, .int 0 v4, .str o u1, .str sec u2] 0) → s.heap.get? a = none → Q (.ref a) { s with heap := h', toks := tk }),
    wpAny (model PySem.Challenge.rw_dm0028_04.prog w) (AD 590 1900) (call (.ref 110) [.ref r]) Q E s := by
  w_top off
  k_fill
  intro p loose mean mg mb w s r o sec u1 u2 lv hr Q E KX T hQ
  obtain ⟨hh, g, dr, tk, os⟩ := s
  dsimp only at KX T hr hQ
  w_strict (
  refine wpAny_call ?_
  k_dflt (refine' enter_new (h₀ := hh) (binds := [("row", .ref r)]) (news := []) ?k1 ?k2 KX T.nolimit ?k9 ?k5 ?k6 ?k7 ?k8 ?kB ?c2 ?c3 ?c4 ?c5 ?_; (case k5 => k_is); (case k6 => k_is); (case k7 => exact Nat.le_of_ble_eq_true rfl); (case k8 => first | exact BindsTo.of_eq rfl | exact binds_K KX rfl (by k_is) rfl rfl rfl); (case c5 => decide); (case kB => exact locs rfl); (case c2 => exact rfl); (case c3 => exact rfl); (case c4 => exact rfl); (case k1 => exact fun _ _ e => e); (case k2 => exact Nat.le_refl _); (case k9 => exact List.forall_mem_nil _))
  intro L' h' tk' F' N' l1
  walk_at "mine texts"
  k_steps
  · rename (o != _) = true => hz1
    (with_reducible rename Fr _ _ _ _ => Fz)
    (with_reducible rename News _ _ _ _ => Nz)
    have Nh := Nz _ (.head _)
    dsimp only at Nh
    exact hQ _ _ _ _ _ _ _ _ Fz.keep (if_neg (bne_t hz1)).symm Nh.1 Nh.2.2
  · rename (o != _) = false => hz1
    (with_reducible rename Fr _ _ _ _ => Fz)
    (with_reducible rename News _ _ _ _ => Nz)
    have Nh := Nz _ (.head _)
    dsimp only at Nh
    exact hQ _ _ _ _ _ _ _ _ Fz.keep (if_pos (bne_f hz1)).symm Nh.1 Nh.2.2)
theorem ckL : ∀ {p : Program} {loose : List Str} {mean : ExcName → Option Value} {mg mb : Str → Option Value} (w : World) (s : Shared) (r : Addr) (o sec : Str) (u1 u2 : Tok) (src : Str) (u3 u4 : Tok) (k : Int) (hr : s.heap.IsList r #[.str o u1, .str sec u2, .str src u3, .int k u4])
    (Q E : Value → Shared → Prop) (KX : (hz.heap_137 w.params).In s.heap) (T : Top p loose mean mg mb s.heap)
    (hQ : ∀ h' tk (a : Addr) (kind : Int) (v1 v2 v3 v4 : Tok), Grow s.heap h' → kind = (if o = Str.ofString "" then 1 else 0) → h'.get? a = some (listOf #[.int 2 v1, .str src u3, .int k u4, .int kind v3, .str o u1, .str sec u2] 0) → s.heap.get? a = none → Q (.ref a) { s with heap := h', toks := tk }),
    wpAny (model PySem.Challenge.rw_dm0028_04.prog w) (AD 590 1900) (call (.ref 110) [.ref r]) Q E s := by
  w_top off
  k_fill
  intro p loose mean mg mb w s r o sec u1 u2 src u3 u4 k hr Q E KX T hQ
  obtain ⟨hh, g, dr, tk, os⟩ := s
  dsimp only at KX T hr hQ
  w_strict (
  refine wpAny_call ?_
  k_dflt (refine' enter_new (h₀ := hh) (binds := [("row", .ref r)]) (news := []) ?k1 ?k2 KX T.nolimit ?k9 ?k5 ?k6 ?k7 ?k8 ?kB ?c2 ?c3 ?c4 ?c5 ?_; (case k5 => k_is); (case k6 => k_is); (case k7 => exact Nat.le_of_ble_eq_true rfl); (case k8 => first | exact BindsTo.of_eq rfl | exact binds_K KX rfl (by k_is) rfl rfl rfl); (case c5 => decide); (case kB => exact locs rfl); (case c2 => exact rfl); (case c3 => exact rfl); (case c4 => exact rfl); (case k1 => exact fun _ _ e => e); (case k2 => exact Nat.le_refl _); (case k9 => exact List.forall_mem_nil _))
  intro L' h' tk' F' N' l1
  walk_at "mine texts"
  k_steps
  · rename (o != _) = true => hz1
    (with_reducible rename Fr _ _ _ _ => Fz)
    (with_reducible rename News _ _ _ _ => Nz)
    have Nh := Nz _ (.head _)
    dsimp only at Nh
    exact hQ _ _ _ _ _ 0 _ 0 Fz.keep (if_neg (bne_t hz1)).symm Nh.1 Nh.2.2
  · rename (o != _) = false => hz1
    (with_reducible rename Fr _ _ _ _ => Fz)
    (with_reducible rename News _ _ _ _ => Nz)
    have Nh := Nz _ (.head _)
    dsimp only at Nh
    exact hQ _ _ _ _ _ 0 _ 0 Fz.keep (if_pos (bne_f hz1)).symm Nh.1 Nh.2.2)
theorem ckP : ∀ {p : Program} {loose : List Str} {mean : ExcName → Option Value} {mg mb : Str → Option Value} (w : World) (s : Shared) (r : Addr) (o sec : Str) (u1 u2 : Tok) (src : Str) (u3 : Tok) (hr : s.heap.IsList r #[.str o u1, .str sec u2, .str src u3, .none])
    (Q E : Value → Shared → Prop) (KX : (hz.heap_137 w.params).In s.heap) (T : Top p loose mean mg mb s.heap)
    (hQ : ∀ h' tk (a : Addr) (kind : Int) (v1 v2 v3 v4 : Tok), Grow s.heap h' → kind = (if o = Str.ofString "" then 1 else 0) → h'.get? a = some (listOf #[.int 2 v1, .str src u3, .int 100 v2, .int kind v3, .str o u1, .str sec u2] 0) → s.heap.get? a = none → Q (.ref a) { s with heap := h', toks := tk }),
    wpAny (model PySem.Challenge.rw_dm0028_04.prog w) (AD 590 1900) (call (.ref 110) [.ref r]) Q E s := by
  w_top off
  k_fill
  intro p loose mean mg mb w s r o sec u1 u2 src u3 hr Q E KX T hQ
  obtain ⟨hh, g, dr, tk, os⟩ := s
  dsimp only at KX T hr hQ
  w_strict (
  refine wpAny_call ?_
  k_dflt (refine' enter_new (h₀ := hh) (binds := [("row", .ref r)]) (news := []) ?k1 ?k2 KX T.nolimit ?k9 ?k5 ?k6 ?k7 ?k8 ?kB ?c2 ?c3 ?c4 ?c5 ?_; (case k5 => k_is); (case k6 => k_is); (case k7 => exact Nat.le_of_ble_eq_true rfl); (case k8 => first | exact BindsTo.of_eq rfl | exact binds_K KX rfl (by k_is) rfl rfl rfl); (case c5 => decide); (case kB => exact locs rfl); (case c2 => exact rfl); (case c3 => exact rfl); (case c4 => exact rfl); (case k1 => exact fun _ _ e => e); (case k2 => exact Nat.le_refl _); (case k9 => exact List.forall_mem_nil _))
  intro L' h' tk' F' N' l1
  walk_at "mine texts"
  k_steps
  · rename (o != _) = true => hz1
    (with_reducible rename Fr _ _ _ _ => Fz)
    (with_reducible rename News _ _ _ _ => Nz)
    have Nh := Nz _ (.head _)
    dsimp only at Nh
    exact hQ _ _ _ _ _ _ _ 0 Fz.keep (if_neg (bne_t hz1)).symm Nh.1 Nh.2.2
  · rename (o != _) = false => hz1
    (with_reducible rename Fr _ _ _ _ => Fz)
    (with_reducible rename News _ _ _ _ => Nz)
    have Nh := Nz _ (.head _)
    dsimp only at Nh
    exact hQ _ _ _ _ _ _ _ 0 Fz.keep (if_pos (bne_f hz1)).symm Nh.1 Nh.2.2)
end
section
open PySem PySem.W PySem.W.X PySem.Calls PyProof.Rows
set_option Elab.async false
set_option maxRecDepth 100000
set_option maxHeartbeats 8000000
def tk6 (a b c d e f : Tok) : Nat → Tok
  | 0 => a
  | 1 => b
  | 2 => c
  | 3 => d
  | 4 => e
  | _ => f
theorem keyC {p : Program} {loose : List Str} {mean : ExcName → Option Value} {mg mb : Str → Option Value} (w : World) (s : Shared) (r : Addr) (d : RowD) (hr : RowAt s.heap r d)
    (Q E : Value → Shared → Prop) (KX : (hz.heap_137 w.params).In s.heap) (T : Top p loose mean mg mb s.heap)
    (hQ : ∀ h' tk (a : Addr) (t : Nat → Tok), Grow s.heap h' → h'.get? a = some (keyO (keyD d) t) → s.heap.get? a = none → Q (.ref a) { s with heap := h', toks := tk }) :
    wpAny (model PySem.Challenge.rw_dm0028_04.prog w) (AD 590 1900) (call (.ref 110) [.ref r]) Q E s := by
  obtain ⟨t, ht⟩ := hr
  obtain ⟨o, sec, src, line⟩ := d
  cases src with
  | none => exact ckN w s r o sec (t 0) (t 1) (iVal line (t 3)) ht Q E KX T fun h' tk a kind v1 v2 v3 v4 g hk hg hn => hQ h' tk a (tk6 v1 v2 v3 v4 (t 0) (t 1)) g (by subst hk; exact hg) hn
  | some x =>
    cases line with
    | none => exact ckP w s r o sec (t 0) (t 1) x (t 2) ht Q E KX T fun h' tk a kind v1 v2 v3 v4 g hk hg hn => hQ h' tk a (tk6 v1 (t 2) v2 v3 (t 0) (t 1)) g (by subst hk; exact hg) hn
    | some k => exact ckL w s r o sec (t 0) (t 1) x (t 2) (t 3) k ht Q E KX T fun h' tk a kind v1 v2 v3 v4 g hk hg hn => hQ h' tk a (tk6 v1 (t 2) (t 3) v3 (t 0) (t 1)) g (by subst hk; exact hg) hn
end
section
open PySem PySem.W PySem.W.X PySem.Calls PyProof.Rows
set_option Elab.async false
set_option maxRecDepth 100000
set_option maxHeartbeats 8000000
set_option linter.unusedVariables false
theorem lineAt_of {z : Str} {f g : Nat} {lo hi k : Int} (h : z = ⟨#[f, g]⟩) (hf : LineAt ⟨#[f, g]⟩ lo hi k) : LineAt z lo hi k := h ▸ hf
theorem nameAt_of {x y : Str} {i e : Int} (hl : x.length ≤ 1000) (a : decide (0 ≤ i ∧ i ≤ 1000 ∧ 0 ≤ e ∧ e ≤ 1000) = true) (b : Txt.slice x (some i) (some (i + 1)) = Str.ofString "'") (c : Txt.find3 x (Str.ofString "'") (i + 1) = e) (d : Txt.slice x (some (i + 1)) (some e) = y) : NameAt x i y e :=
  have q := of_decide_eq_true a
  ⟨hl, q.1, q.2.1, b, c, q.2.2.1, q.2.2.2, d⟩
def lineChk (k : Nat) : Bool := decide (Txt.find digs (Txt.slice ⟨#[(fg k).1, (fg k).2]⟩ (some 1) none) = ((k % 10 : Nat) : Int)) && (if k < 10 then decide (Txt.item ⟨#[(fg k).1, (fg k).2]⟩ 0 = Str.ofString " ") else decide (Txt.item ⟨#[(fg k).1, (fg k).2]⟩ 0 ≠ Str.ofString " ") && decide (Txt.find digs (Txt.item ⟨#[(fg k).1, (fg k).2]⟩ 0) = ((k / 10 : Nat) : Int)))
theorem line_fin : ∀ k : Fin 100, lineChk k.val = true := by decide +kernel
theorem line_at {k : Nat} (hk : k < 100) : ∃ lo hi : Int, LineAt ⟨#[(fg k).1, (fg k).2]⟩ lo hi (k : Int) := by
  have h := line_fin ⟨k, hk⟩
  simp only [lineChk, Bool.and_eq_true, decide_eq_true_eq] at h
  refine ⟨((k % 10 : Nat) : Int), ((k / 10 : Nat) : Int), ⟨rfl, h.1, by omega, by omega, ?_⟩⟩
  by_cases hz : k < 10
  · rw [if_pos hz, decide_eq_true_eq] at h
    exact .inl ⟨h.2, by omega⟩
  · rw [if_neg hz, Bool.and_eq_true, decide_eq_true_eq, decide_eq_true_eq] at h
    exact .inr ⟨h.2.1, h.2.2, by omega, by omega, by omega⟩
def tL (x : Str) (l : List Nat) (o sec : Str) : Str := ⟨(cL_ "While reading from " ++ (qL x ++ (l ++ (cL_ ": " ++ restL false o sec)))).toArray⟩
def rL (up : Bool) (o sec : Str) : Str := ⟨(restL up o sec).toArray⟩
def figL (f g : Nat) : List Nat := cL_ " [line " ++ ([f, g] ++ cL_ "]")
def HeadL (x src : Str) (lo hi k : Int) (y : Str) : Prop := ∃ e : Int, x.length ≤ 1000 ∧ (Txt.slice x none (some 19) == Str.ofString "While reading from ") = true ∧ NameAt x 19 src e ∧ (Txt.slice x (some (e + 1)) (some (e + 1 + 7)) == Str.ofString " [line ") = true ∧
  LineAt (Txt.slice x (some (e + 1 + 7)) (some (e + 1 + 9))) lo hi k ∧ (Txt.slice x (some (e + 1 + 9)) (some (e + 1 + 10)) != Str.ofString "]") = false ∧ (Txt.slice x (some (e + 1 + 10)) (some (e + 1 + 10 + 2)) != Str.ofString ": ") = false ∧ CutAt x (e + 1 + 10 + 2) y
def HeadP (x src : Str) (y : Str) : Prop := ∃ e : Int, x.length ≤ 1000 ∧ (Txt.slice x none (some 19) == Str.ofString "While reading from ") = true ∧ NameAt x 19 src e ∧ (Txt.slice x (some (e + 1)) (some (e + 1 + 7)) == Str.ofString " [line ") = false ∧
  (Txt.slice x (some (e + 1)) (some (e + 1 + 2)) != Str.ofString ": ") = false ∧ CutAt x (e + 1 + 2) y
def RestO (hd : Str) (y o sec : Str) : Prop := ∃ e3 e2 : Int, (Txt.slice y none (some 7) == hd) = true ∧ NameAt y 7 o e2 ∧ (Txt.slice y (some (e2 + 1)) (some (e2 + 1 + 12)) != Str.ofString " in section ") = false ∧ NameAt y (e2 + 1 + 12) sec e3 ∧ (Txt.slice y (some (e3 + 1)) none != Str.ofString " already exists") = false
def RestS (hd hd2 : Str) (y sec : Str) : Prop := ∃ e3 : Int, (Txt.slice y none (some 7) == hd) = false ∧ (Txt.slice y none (some 8) == hd2) = true ∧ NameAt y 8 sec e3 ∧ (Txt.slice y (some (e3 + 1)) none != Str.ofString " already exists") = false
theorem os_cases {o : Str} (h : o ∈ osL) : o = Str.ofString "" ∨ o = Str.ofString "k" ∨ o = Str.ofString "m" := by simpa only [osL, List.mem_cons, List.not_mem_nil, or_false] using h
theorem ss_cases {o : Str} (h : o ∈ ssL) : o = Str.ofString "s" ∨ o = Str.ofString "t" ∨ o = Str.ofString "u" := by simpa only [ssL, List.mem_cons, List.not_mem_nil, or_false] using h
theorem fs_cases {o : Str} (h : o ∈ fsL) : o = Str.ofString "a.ini" ∨ o = Str.ofString "b.ini" ∨ o = Str.ofString "" := by simpa only [fsL, List.mem_cons, List.not_mem_nil, or_false] using h
theorem headL0 {f g : Nat} {lo hi k : Int} {o sec : Str} (ho : o ∈ osL) (hs : sec ∈ ssL) (hf : LineAt ⟨#[f, g]⟩ lo hi k) : HeadL (tL (Str.ofString "a.ini") (figL f g) o sec) (Str.ofString "a.ini") lo hi k (rL false o sec) := by
  rcases os_cases ho with rfl | rfl | rfl <;> rcases ss_cases hs with rfl | rfl | rfl <;>
  exact ⟨25, (Nat.le_of_ble_eq_true (by kernel_rfl)), by kernel_rfl, nameAt_of (Nat.le_of_ble_eq_true (by kernel_rfl)) (by decide) (by kernel_rfl) (by kernel_rfl) (by kernel_rfl), by kernel_rfl, lineAt_of (by kernel_rfl) hf, by kernel_rfl, by kernel_rfl, ⟨(Nat.le_of_ble_eq_true (by kernel_rfl)), by kernel_rfl⟩⟩
theorem headP0 {o sec : Str} (ho : o ∈ osL) (hs : sec ∈ ssL) : HeadP (tL (Str.ofString "a.ini") [] o sec) (Str.ofString "a.ini") (rL false o sec) := by
  rcases os_cases ho with rfl | rfl | rfl <;> rcases ss_cases hs with rfl | rfl | rfl <;>
  exact ⟨25, (Nat.le_of_ble_eq_true (by kernel_rfl)), by kernel_rfl, nameAt_of (Nat.le_of_ble_eq_true (by kernel_rfl)) (by decide) (by kernel_rfl) (by kernel_rfl) (by kernel_rfl), by kernel_rfl, by kernel_rfl, ⟨(Nat.le_of_ble_eq_true (by kernel_rfl)), by kernel_rfl⟩⟩
theorem headL1 {f g : Nat} {lo hi k : Int} {o sec : Str} (ho : o ∈ osL) (hs : sec ∈ ssL) (hf : LineAt ⟨#[f, g]⟩ lo hi k) : HeadL (tL (Str.ofString "b.ini") (figL f g) o sec) (Str.ofString "b.ini") lo hi k (rL false o sec) := by
  rcases os_cases ho with rfl | rfl | rfl <;> rcases ss_cases hs with rfl | rfl | rfl <;>
  exact ⟨25, (Nat.le_of_ble_eq_true (by kernel_rfl)), by kernel_rfl, nameAt_of (Nat.le_of_ble_eq_true (by kernel_rfl)) (by decide) (by kernel_rfl) (by kernel_rfl) (by kernel_rfl), by kernel_rfl, lineAt_of (by kernel_rfl) hf, by kernel_rfl, by kernel_rfl, ⟨(Nat.le_of_ble_eq_true (by kernel_rfl)), by kernel_rfl⟩⟩
theorem headP1 {o sec : Str} (ho : o ∈ osL) (hs : sec ∈ ssL) : HeadP (tL (Str.ofString "b.ini") [] o sec) (Str.ofString "b.ini") (rL false o sec) := by
  rcases os_cases ho with rfl | rfl | rfl <;> rcases ss_cases hs with rfl | rfl | rfl <;>
  exact ⟨25, (Nat.le_of_ble_eq_true (by kernel_rfl)), by kernel_rfl, nameAt_of (Nat.le_of_ble_eq_true (by kernel_rfl)) (by decide) (by kernel_rfl) (by kernel_rfl) (by kernel_rfl), by kernel_rfl, by kernel_rfl, ⟨(Nat.le_of_ble_eq_true (by kernel_rfl)), by kernel_rfl⟩⟩
theorem headL2 {f g : Nat} {lo hi k : Int} {o sec : Str} (ho : o ∈ osL) (hs : sec ∈ ssL) (hf : LineAt ⟨#[f, g]⟩ lo hi k) : HeadL (tL (Str.ofString "") (figL f g) o sec) (Str.ofString "") lo hi k (rL false o sec) := by
  rcases os_cases ho with rfl | rfl | rfl <;> rcases ss_cases hs with rfl | rfl | rfl <;>
  exact ⟨20, (Nat.le_of_ble_eq_true (by kernel_rfl)), by kernel_rfl, nameAt_of (Nat.le_of_ble_eq_true (by kernel_rfl)) (by decide) (by kernel_rfl) (by kernel_rfl) (by kernel_rfl), by kernel_rfl, lineAt_of (by kernel_rfl) hf, by kernel_rfl, by kernel_rfl, ⟨(Nat.le_of_ble_eq_true (by kernel_rfl)), by kernel_rfl⟩⟩
theorem headP2 {o sec : Str} (ho : o ∈ osL) (hs : sec ∈ ssL) : HeadP (tL (Str.ofString "") [] o sec) (Str.ofString "") (rL false o sec) := by
  rcases os_cases ho with rfl | rfl | rfl <;> rcases ss_cases hs with rfl | rfl | rfl <;>
  exact ⟨20, (Nat.le_of_ble_eq_true (by kernel_rfl)), by kernel_rfl, nameAt_of (Nat.le_of_ble_eq_true (by kernel_rfl)) (by decide) (by kernel_rfl) (by kernel_rfl) (by kernel_rfl), by kernel_rfl, by kernel_rfl, ⟨(Nat.le_of_ble_eq_true (by kernel_rfl)), by kernel_rfl⟩⟩
theorem rest_true {o sec : Str} (ho : o ∈ osL) (hs : sec ∈ ssL) : (o = Str.ofString "" ∧ RestS (Str.ofString "Option ") (Str.ofString "Section ") (rL true o sec) sec) ∨ RestO (Str.ofString "Option ") (rL true o sec) o sec := by
  rcases os_cases ho with rfl | rfl | rfl
  · refine .inl ⟨rfl, ?_⟩
    rcases ss_cases hs with rfl | rfl | rfl <;> exact ⟨10, by kernel_rfl, by kernel_rfl, nameAt_of (Nat.le_of_ble_eq_true (by kernel_rfl)) (by decide) (by kernel_rfl) (by kernel_rfl) (by kernel_rfl), by kernel_rfl⟩
  · refine .inr ?_
    rcases ss_cases hs with rfl | rfl | rfl <;> exact ⟨24, 9, by kernel_rfl, nameAt_of (Nat.le_of_ble_eq_true (by kernel_rfl)) (by decide) (by kernel_rfl) (by kernel_rfl) (by kernel_rfl), by kernel_rfl, nameAt_of (Nat.le_of_ble_eq_true (by kernel_rfl)) (by decide) (by kernel_rfl) (by kernel_rfl) (by kernel_rfl), by kernel_rfl⟩
  · refine .inr ?_
    rcases ss_cases hs with rfl | rfl | rfl <;> exact ⟨24, 9, by kernel_rfl, nameAt_of (Nat.le_of_ble_eq_true (by kernel_rfl)) (by decide) (by kernel_rfl) (by kernel_rfl) (by kernel_rfl), by kernel_rfl, nameAt_of (Nat.le_of_ble_eq_true (by kernel_rfl)) (by decide) (by kernel_rfl) (by kernel_rfl) (by kernel_rfl), by kernel_rfl⟩
theorem rest_false {o sec : Str} (ho : o ∈ osL) (hs : sec ∈ ssL) : (o = Str.ofString "" ∧ RestS (Str.ofString "option ") (Str.ofString "section ") (rL false o sec) sec) ∨ RestO (Str.ofString "option ") (rL false o sec) o sec := by
  rcases os_cases ho with rfl | rfl | rfl
  · refine .inl ⟨rfl, ?_⟩
    rcases ss_cases hs with rfl | rfl | rfl <;> exact ⟨10, by kernel_rfl, by kernel_rfl, nameAt_of (Nat.le_of_ble_eq_true (by kernel_rfl)) (by decide) (by kernel_rfl) (by kernel_rfl) (by kernel_rfl), by kernel_rfl⟩
  · refine .inr ?_
    rcases ss_cases hs with rfl | rfl | rfl <;> exact ⟨24, 9, by kernel_rfl, nameAt_of (Nat.le_of_ble_eq_true (by kernel_rfl)) (by decide) (by kernel_rfl) (by kernel_rfl) (by kernel_rfl), by kernel_rfl, nameAt_of (Nat.le_of_ble_eq_true (by kernel_rfl)) (by decide) (by kernel_rfl) (by kernel_rfl) (by kernel_rfl), by kernel_rfl⟩
  · refine .inr ?_
    rcases ss_cases hs with rfl | rfl | rfl <;> exact ⟨24, 9, by kernel_rfl, nameAt_of (Nat.le_of_ble_eq_true (by kernel_rfl)) (by decide) (by kernel_rfl) (by kernel_rfl) (by kernel_rfl), by kernel_rfl, nameAt_of (Nat.le_of_ble_eq_true (by kernel_rfl)) (by decide) (by kernel_rfl) (by kernel_rfl) (by kernel_rfl), by kernel_rfl⟩
theorem rup_len {o sec : Str} (ho : o ∈ osL) (hs : sec ∈ ssL) : (rL true o sec).length ≤ 1000 ∧ (Txt.slice (rL true o sec) none (some 19) == Str.ofString "While reading from ") = false := by
  rcases os_cases ho with rfl | rfl | rfl <;> rcases ss_cases hs with rfl | rfl | rfl <;> exact ⟨Nat.le_of_ble_eq_true (by kernel_rfl), by kernel_rfl⟩
theorem headL_all {x : Str} {f g : Nat} {lo hi k : Int} {o sec : Str} (hx : x ∈ fsL) (ho : o ∈ osL) (hs : sec ∈ ssL) (hf : LineAt ⟨#[f, g]⟩ lo hi k) : HeadL (tL x (figL f g) o sec) x lo hi k (rL false o sec) := by
  rcases fs_cases hx with rfl | rfl | rfl
  · exact headL0 ho hs hf
  · exact headL1 ho hs hf
  · exact headL2 ho hs hf
theorem headP_all {x : Str} {o sec : Str} (hx : x ∈ fsL) (ho : o ∈ osL) (hs : sec ∈ ssL) : HeadP (tL x [] o sec) x (rL false o sec) := by
  rcases fs_cases hx with rfl | rfl | rfl
  · exact headP0 ho hs
  · exact headP1 ho hs
  · exact headP2 ho hs
theorem rowC {p : Program} {loose : List Str} {mean : ExcName → Option Value} {mg mb : Str → Option Value} (w : World) (s : Shared) (d : RowD) (hd : Dom d) (t : Tok)
    (Q E : Value → Shared → Prop) (KX : (hz.heap_137 w.params).In s.heap) (T : Top p loose mean mg mb s.heap)
    (hQ : ∀ h' tk (a : Addr) (tt : Nat → Tok), Grow s.heap h' → h'.get? a = some (listOf (rowL d tt).toArray 0) → s.heap.get? a = none → Q (.ref a) { s with heap := h', toks := tk }) :
    wpAny (model PySem.Challenge.rw_dm0028_04.prog w) (AD 590 1900) (call (.ref 103) [.str (textD d) t]) Q E s := by
  obtain ⟨o, sec, src, line⟩ := d
  obtain ⟨ho, hs, hx, hl⟩ := hd
  dsimp only at ho hs hx hl
  rcases hx with ⟨rfl, rfl⟩ | ⟨x, rfl, hx⟩
  · have ez : textD ⟨o, sec, none, none⟩ = rL true o sec := rfl
    rw [ez]
    obtain ⟨r1, r2⟩ := rup_len ho hs
    rcases rest_true ho hs with ⟨rfl, e3, a, b, c, d⟩ | ⟨e3, e2, a, b, c, d, f⟩
    · exact rowNS w s _ t r1 r2 sec e3 a b c d Q E KX T fun h' tk a u1 u2 u3 u4 g h n => hQ h' tk a (tk6 u1 u2 u3 u4 0 0) g h n
    · exact rowNO w s _ t r1 r2 o sec e3 e2 a b c d f Q E KX T fun h' tk a u1 u2 u3 u4 g h n => hQ h' tk a (tk6 u1 u2 u3 u4 0 0) g h n
  · rcases hl with rfl | ⟨k, rfl, hk⟩
    · have ez : textD ⟨o, sec, some x, none⟩ = tL x [] o sec := rfl
      rw [ez]
      obtain ⟨e, r1, r2, r3, r4, r5, r6⟩ := headP_all hx ho hs
      rcases rest_false ho hs with ⟨rfl, e3, a, b, c, d⟩ | ⟨e3, e2, a, b, c, d, f⟩
      · exact rowPS w s _ t r1 r2 x e r3 r4 r5 _ r6 sec e3 a b c d Q E KX T fun h' tk a u1 u2 u3 u4 g h n => hQ h' tk a (tk6 u1 u2 u3 u4 0 0) g h n
      · exact rowPO w s _ t r1 r2 x e r3 r4 r5 _ r6 o sec e3 e2 a b c d f Q E KX T fun h' tk a u1 u2 u3 u4 g h n => hQ h' tk a (tk6 u1 u2 u3 u4 0 0) g h n
    · have ez : textD ⟨o, sec, some x, some (k : Int)⟩ = tL x (figL (fg k).1 (fg k).2) o sec := by
        have q : lineL (some (k : Int)) = figL (fg k).1 (fg k).2 := by
          show cL_ " [line " ++ ((fig2 (k : Int)).cps.toList ++ cL_ "]") = _
          rw [fig_is hk]
          rfl
        show (⟨(cL_ "While reading from " ++ (qL x ++ (lineL (some (k : Int)) ++ (cL_ ": " ++ restL false o sec)))).toArray⟩ : Str) = _
        rw [q]
        rfl
      rw [ez]
      obtain ⟨lo, hi, hf⟩ := line_at hk
      obtain ⟨e, r1, r2, r3, r4, r5, r6, r7, r8⟩ := headL_all hx ho hs hf
      rcases rest_false ho hs with ⟨rfl, e3, a, b, c, d⟩ | ⟨e3, e2, a, b, c, d, f⟩
      · exact rowLS w s _ t r1 r2 x e r3 r4 lo hi _ r5 r6 r7 _ r8 sec e3 a b c d Q E KX T fun h' tk a u1 u2 u3 u4 g h n => hQ h' tk a (tk6 u1 u2 u3 u4 0 0) g h n
      · exact rowLO w s _ t r1 r2 x e r3 r4 lo hi _ r5 r6 r7 _ r8 o sec e3 e2 a b c d f Q E KX T fun h' tk a u1 u2 u3 u4 g h n => hQ h' tk a (tk6 u1 u2 u3 u4 0 0) g h n
end
section
open PySem PySem.W PySem.W.X PySem.Calls PyProof.Rows
set_option Elab.async false
set_option maxRecDepth 100000
set_option maxHeartbeats 8000000
set_option linter.unusedVariables false
theorem ext_s {a b : Str} (h : a.cps.toList = b.cps.toList) : a = b := by
  cases a; cases b
  exact congrArg Str.mk (Array.toList_inj.mp h)
theorem cps_app (a b : Str) : (a ++ b).cps.toList = a.cps.toList ++ b.cps.toList := by simp [PySem.Str.cps_append]
theorem rep_osL : ∀ x ∈ osL ++ (ssL ++ fsL), (reprText x).cps.toList = qL x ∧ (reprText x).length ≤ 1000000 := by decide +kernel
theorem rep_o {x : Str} (h : x ∈ osL) : (reprText x).cps.toList = qL x ∧ (reprText x).length ≤ 1000000 := rep_osL x (List.mem_append_left _ h)
theorem rep_s {x : Str} (h : x ∈ ssL) : (reprText x).cps.toList = qL x ∧ (reprText x).length ≤ 1000000 := rep_osL x (List.mem_append_right _ (List.mem_append_left _ h))
theorem rep_f {x : Str} (h : x ∈ fsL) : (reprText x).cps.toList = qL x ∧ (reprText x).length ≤ 1000000 := rep_osL x (List.mem_append_right _ (List.mem_append_right _ h))
theorem line_cps (n : Int) : (lineText n).cps.toList = lineL (some n) := by
  show ((Str.ofString " [line " ++ fig2 n) ++ Str.ofString "]").cps.toList = cL_ " [line " ++ ((fig2 n).cps.toList ++ cL_ "]")
  rw [cps_app, cps_app, List.append_assoc]
  rfl
theorem lit1 : (Str.ofString ": section ").cps.toList = cL_ ": " ++ cL_ "section " := by decide +kernel
theorem lit2 : (Str.ofString ": option ").cps.toList = cL_ ": " ++ cL_ "option " := by decide +kernel
theorem cps_lit (s : String) : (Str.ofString s).cps.toList = cL_ s := rfl
theorem textD_cps (d : RowD) : (textD d).cps.toList = textL d := by unfold textD; rw [List.toList_toArray]
theorem rest_sT (sec : Str) : restL true (Str.ofString "") sec = cL_ "Section " ++ (qL sec ++ cL_ " already exists") := by unfold restL; rw [if_pos rfl, if_pos rfl]
theorem rest_sF (sec : Str) : restL false (Str.ofString "") sec = cL_ "section " ++ (qL sec ++ cL_ " already exists") := by unfold restL; rw [if_pos rfl, if_neg Bool.false_ne_true]
theorem rest_oT {o : Str} (sec : Str) (h : o ≠ Str.ofString "") : restL true o sec = cL_ "Option " ++ (qL o ++ (cL_ " in section " ++ (qL sec ++ cL_ " already exists"))) := by unfold restL; rw [if_neg h, if_pos rfl]; simp only [List.append_assoc]
theorem rest_oF {o : Str} (sec : Str) (h : o ≠ Str.ofString "") : restL false o sec = cL_ "option " ++ (qL o ++ (cL_ " in section " ++ (qL sec ++ cL_ " already exists"))) := by unfold restL; rw [if_neg h, if_neg Bool.false_ne_true]; simp only [List.append_assoc]
section
variable {sec o x : Str}
theorem mSn (hs : sec ∈ ssL) : Txt.join (Str.ofString "") [Str.ofString "Section ", reprText sec, Str.ofString " already exists"] = textD ⟨Str.ofString "", sec, none, none⟩ := by
  apply ext_s
  simp only [tjc, tj1, cps_app, textD_cps, (rep_s hs).1, cps_lit]
  show _ = restL true (Str.ofString "") sec
  rw [rest_sT]
theorem mOn (hs : sec ∈ ssL) (ho : o ∈ osL) (hn : o ≠ Str.ofString "") : Txt.join (Str.ofString "") [Str.ofString "Option ", reprText o, Str.ofString " in section ", reprText sec, Str.ofString " already exists"] = textD ⟨o, sec, none, none⟩ := by
  apply ext_s
  simp only [tjc, tj1, cps_app, textD_cps, (rep_s hs).1, (rep_o ho).1, cps_lit]
  show _ = restL true o sec
  rw [rest_oT sec hn]
theorem mSo (hs : sec ∈ ssL) (hx : x ∈ fsL) : Txt.join (Str.ofString "") [Str.ofString "While reading from ", reprText x, Str.ofString ": section ", reprText sec, Str.ofString " already exists"] = textD ⟨Str.ofString "", sec, some x, none⟩ := by
  apply ext_s
  simp only [tjc, tj1, cps_app, textD_cps, (rep_s hs).1, (rep_f hx).1, lit1]
  show _ = cL_ "While reading from " ++ (qL x ++ ([] ++ (cL_ ": " ++ restL false (Str.ofString "") sec)))
  rw [rest_sF]
  simp only [cps_lit, List.append_assoc, List.nil_append]
theorem mSi {n : Int} (hs : sec ∈ ssL) (hx : x ∈ fsL) : Txt.join (Str.ofString "") [Str.ofString "While reading from ", reprText x, lineText n, Str.ofString ": section ", reprText sec, Str.ofString " already exists"] = textD ⟨Str.ofString "", sec, some x, some n⟩ := by
  apply ext_s
  simp only [tjc, tj1, cps_app, textD_cps, (rep_s hs).1, (rep_f hx).1, lit1, line_cps]
  show _ = cL_ "While reading from " ++ (qL x ++ (lineL (some n) ++ (cL_ ": " ++ restL false (Str.ofString "") sec)))
  rw [rest_sF]
  simp only [cps_lit, List.append_assoc]
theorem mOo (hs : sec ∈ ssL) (hx : x ∈ fsL) (ho : o ∈ osL) (hn : o ≠ Str.ofString "") : Txt.join (Str.ofString "") [Str.ofString "While reading from ", reprText x, Str.ofString ": option ", reprText o, Str.ofString " in section ", reprText sec, Str.ofString " already exists"] = textD ⟨o, sec, some x, none⟩ := by
  apply ext_s
  simp only [tjc, tj1, cps_app, textD_cps, (rep_s hs).1, (rep_f hx).1, (rep_o ho).1, lit2]
  show _ = cL_ "While reading from " ++ (qL x ++ ([] ++ (cL_ ": " ++ restL false o sec)))
  rw [rest_oF sec hn]
  simp only [cps_lit, List.append_assoc, List.nil_append]
theorem mOi {n : Int} (hs : sec ∈ ssL) (hx : x ∈ fsL) (ho : o ∈ osL) (hn : o ≠ Str.ofString "") : Txt.join (Str.ofString "") [Str.ofString "While reading from ", reprText x, lineText n, Str.ofString ": option ", reprText o, Str.ofString " in section ", reprText sec, Str.ofString " already exists"] = textD ⟨o, sec, some x, some n⟩ := by
  apply ext_s
  simp only [tjc, tj1, cps_app, textD_cps, (rep_s hs).1, (rep_f hx).1, (rep_o ho).1, lit2, line_cps]
  show _ = cL_ "While reading from " ++ (qL x ++ (lineL (some n) ++ (cL_ ": " ++ restL false o sec)))
  rw [rest_oF sec hn]
  simp only [cps_lit, List.append_assoc]
end
end
section
open PySem PySem.W PySem.W.X PySem.Calls PyProof.Rows
set_option Elab.async false
set_option maxRecDepth 100000
set_option maxHeartbeats 1000000
set_option linter.unusedVariables false
def SrcOk (src : Option Str) : Prop := src = none ∨ ∃ x, src = some x ∧ x ∈ fsL
def told (src : Option Str) (ln : Option Int) : Option Int := match src with | none => none | some _ => ln
theorem line_lines {prog : Program} {w : World} {k : Nat} (h : k < 100) : Lines prog w (k : Int) (lineText (k : Int)) :=
  lines_of (Nat.lt_of_le_of_lt (Nat.log2_le_self k) (Nat.lt_of_lt_of_le h (Nat.le_of_ble_eq_true rfl))) (by rw [fig_is h]; exact Nat.le_of_ble_eq_true rfl)
theorem conS04 {p : Program} {loose : List Str} {mean : ExcName → Option Value} {mg mb : Str → Option Value} (w : World) (s : Shared) {sec : Str} {src : Option Str} {ln : Option Int} (ts tu tl : Tok) (hs : sec ∈ ssL) (hx : SrcOk src) (hl : LineOk ln)
    (Q E : Value → Shared → Prop) (KX : (hz.heap_137 w.params).In s.heap) (T : Top p loose mean mg mb s.heap)
    (hQ : ∀ h' tk e d ta od u, Grow s.heap h' → ErrNew s.heap h' 60 e d ta od (textD ⟨Str.ofString "", sec, src, told src ln⟩) u [("section", .str sec ts), ("source", oVal src tu), ("lineno", iVal ln tl)] [.str sec ts, oVal src tu, iVal ln tl] → Q (.ref e) { s with heap := h', toks := tk }) :
    wpAny (model PySem.Challenge.rw_dm0028_04.prog w) (AD 600 2000) (call (.ref 60) [.str sec ts, oVal src tu, iVal ln tl]) Q E s := by
  rcases hx with rfl | ⟨x, rfl, hx⟩
  · exact conSn w s (.str sec ts) (iVal ln tl) _ (rep_str (rep_s hs).2) Q E KX T fun h' tk e d ta od u g n => hQ h' tk e d ta od u g (by rw [mSn hs] at n; exact n)
  · rcases hl with rfl | ⟨k, rfl, hk⟩
    · exact conSo w s (.str sec ts) (.str x tu) (by intro h; cases h) _ (rep_str (rep_s hs).2) _ (rep_str (rep_f hx).2) Q E KX T fun h' tk e d ta od u g n => hQ h' tk e d ta od u g (by rw [mSo hs hx] at n; exact n)
    · exact conSi w s (.str sec ts) (.str x tu) (by intro h; cases h) _ tl _ (line_lines hk) _ (rep_str (rep_s hs).2) _ (rep_str (rep_f hx).2) Q E KX T fun h' tk e d ta od u g n => hQ h' tk e d ta od u g (by rw [mSi hs hx] at n; exact n)
theorem conO04 {p : Program} {loose : List Str} {mean : ExcName → Option Value} {mg mb : Str → Option Value} (w : World) (s : Shared) {sec o : Str} {src : Option Str} {ln : Option Int} (ts to tu tl : Tok) (hs : sec ∈ ssL) (ho : o ∈ osL) (hn : o ≠ Str.ofString "") (hx : SrcOk src) (hl : LineOk ln)
    (Q E : Value → Shared → Prop) (KX : (hz.heap_137 w.params).In s.heap) (T : Top p loose mean mg mb s.heap)
    (hQ : ∀ h' tk e d ta od u, Grow s.heap h' → ErrNew s.heap h' 80 e d ta od (textD ⟨o, sec, src, told src ln⟩) u [("section", .str sec ts), ("option", .str o to), ("source", oVal src tu), ("lineno", iVal ln tl)] [.str sec ts, .str o to, oVal src tu, iVal ln tl] → Q (.ref e) { s with heap := h', toks := tk }) :
    wpAny (model PySem.Challenge.rw_dm0028_04.prog w) (AD 600 2000) (call (.ref 80) [.str sec ts, .str o to, oVal src tu, iVal ln tl]) Q E s := by
  rcases hx with rfl | ⟨x, rfl, hx⟩
  · exact conOn w s (.str sec ts) (.str o to) (iVal ln tl) _ (rep_str (rep_s hs).2) _ (rep_str (rep_o ho).2) Q E KX T fun h' tk e d ta od u g n => hQ h' tk e d ta od u g (by rw [mOn hs ho hn] at n; exact n)
  · rcases hl with rfl | ⟨k, rfl, hk⟩
    · exact conOo w s (.str sec ts) (.str o to) (.str x tu) (by intro h; cases h) _ (rep_str (rep_s hs).2) _ (rep_str (rep_o ho).2) _ (rep_str (rep_f hx).2) Q E KX T fun h' tk e d ta od u g n => hQ h' tk e d ta od u g (by rw [mOo hs hx ho hn] at n; exact n)
    · exact conOi w s (.str sec ts) (.str o to) (.str x tu) (by intro h; cases h) _ tl _ (line_lines hk) _ (rep_str (rep_s hs).2) _ (rep_str (rep_o ho).2) _ (rep_str (rep_f hx).2) Q E KX T fun h' tk e d ta od u g n => hQ h' tk e d ta od u g (by rw [mOi hs hx ho hn] at n; exact n)
end
section
theorem layOr041 : True := by
  k_with_none
  k_with "ne" => (with_reducible (first | exact ns1 | exact ns2 | exact qlt (by assumption) | exact qgt (by assumption) | exact qne (by assumption) | exact qen (by assumption) | exact rlt (by assumption) | exact rgt (by assumption) | exact rne (by assumption) | exact ren (by assumption) | exact qlt (And.right (by assumption)) | exact qgt (And.right (by assumption)) | exact qne (And.right (by assumption)) | exact qen (And.right (by assumption)) | exact rlt (And.right (by assumption)) | exact rgt (And.right (by assumption)) | exact rne (And.right (by assumption)) | exact ren (And.right (by assumption)) | exact qlt (And.right (And.right (by assumption))) | exact qgt (And.right (And.right (by assumption))) | exact qne (And.right (And.right (by assumption))) | exact qen (And.right (And.right (by assumption))) | exact rlt (And.right (And.right (by assumption))) | exact rgt (And.right (And.right (by assumption))) | exact rne (And.right (And.right (by assumption))) | exact ren (And.right (And.right (by assumption))) | exact qlt (And.right (And.right (And.right (by assumption)))) | exact qgt (And.right (And.right (And.right (by assumption)))) | exact qne (And.right (And.right (And.right (by assumption)))) | exact qen (And.right (And.right (And.right (by assumption)))) | exact rlt (And.right (And.right (And.right (by assumption)))) | exact rgt (And.right (And.right (And.right (by assumption)))) | exact rne (And.right (And.right (And.right (by assumption)))) | exact ren (And.right (And.right (And.right (by assumption)))) | exact qlt (And.right (And.right (And.right (And.right (by assumption))))) | exact qgt (And.right (And.right (And.right (And.right (by assumption))))) | exact qne (And.right (And.right (And.right (And.right (by assumption))))) | exact qen (And.right (And.right (And.right (And.right (by assumption))))) | exact rlt (And.right (And.right (And.right (And.right (by assumption))))) | exact rgt (And.right (And.right (And.right (And.right (by assumption))))) | exact rne (And.right (And.right (And.right (And.right (by assumption))))) | exact ren (And.right (And.right (And.right (And.right (by assumption))))) | exact qlt (And.right (And.right (And.right (And.right (And.right (by assumption)))))) | exact qgt (And.right (And.right (And.right (And.right (And.right (by assumption)))))) | exact qne (And.right (And.right (And.right (And.right (And.right (by assumption)))))) | exact qen (And.right (And.right (And.right (And.right (And.right (by assumption)))))) | exact rlt (And.right (And.right (And.right (And.right (And.right (by assumption)))))) | exact rgt (And.right (And.right (And.right (And.right (And.right (by assumption)))))) | exact rne (And.right (And.right (And.right (And.right (And.right (by assumption)))))) | exact ren (And.right (And.right (And.right (And.right (And.right (by assumption)))))) | exact qlt (And.right (And.right (And.right (And.right (And.right (And.right (by assumption))))))) | exact qgt (And.right (And.right (And.right (And.right (And.right (And.right (by assumption))))))) | exact qne (And.right (And.right (And.right (And.right (And.right (And.right (by assumption))))))) | exact qen (And.right (And.right (And.right (And.right (And.right (And.right (by assumption))))))) | exact rlt (And.right (And.right (And.right (And.right (And.right (And.right (by assumption))))))) | exact rgt (And.right (And.right (And.right (And.right (And.right (And.right (by assumption))))))) | exact rne (And.right (And.right (And.right (And.right (And.right (And.right (by assumption))))))) | exact ren (And.right (And.right (And.right (And.right (And.right (And.right (by assumption))))))) | exact qlt (And.right (And.right (And.right (And.right (And.right (And.right (And.right (by assumption)))))))) | exact qgt (And.right (And.right (And.right (And.right (And.right (And.right (And.right (by assumption)))))))) | exact qne (And.right (And.right (And.right (And.right (And.right (And.right (And.right (by assumption)))))))) | exact qen (And.right (And.right (And.right (And.right (And.right (And.right (And.right (by assumption)))))))) | exact rlt (And.right (And.right (And.right (And.right (And.right (And.right (And.right (by assumption)))))))) | exact rgt (And.right (And.right (And.right (And.right (And.right (And.right (And.right (by assumption)))))))) | exact rne (And.right (And.right (And.right (And.right (And.right (And.right (And.right (by assumption)))))))) | exact ren (And.right (And.right (And.right (And.right (And.right (And.right (And.right (by assumption)))))))) | exact qlt (And.right (And.right (And.right (And.right (And.right (And.right (And.right (And.right (by assumption))))))))) | exact qgt (And.right (And.right (And.right (And.right (And.right (And.right (And.right (And.right (by assumption))))))))) | exact qne (And.right (And.right (And.right (And.right (And.right (And.right (And.right (And.right (by assumption))))))))) | exact qen (And.right (And.right (And.right (And.right (And.right (And.right (And.right (And.right (by assumption))))))))) | exact rlt (And.right (And.right (And.right (And.right (And.right (And.right (And.right (And.right (by assumption))))))))) | exact rgt (And.right (And.right (And.right (And.right (And.right (And.right (And.right (And.right (by assumption))))))))) | exact rne (And.right (And.right (And.right (And.right (And.right (And.right (And.right (And.right (by assumption))))))))) | exact ren (And.right (And.right (And.right (And.right (And.right (And.right (And.right (And.right (by assumption))))))))) | exact qlt (And.right (And.right (And.right (And.right (And.right (And.right (And.right (And.right (And.right (by assumption)))))))))) | exact qgt (And.right (And.right (And.right (And.right (And.right (And.right (And.right (And.right (And.right (by assumption)))))))))) | exact qne (And.right (And.right (And.right (And.right (And.right (And.right (And.right (And.right (And.right (by assumption)))))))))) | exact qen (And.right (And.right (And.right (And.right (And.right (And.right (And.right (And.right (And.right (by assumption)))))))))) | exact rlt (And.right (And.right (And.right (And.right (And.right (And.right (And.right (And.right (And.right (by assumption)))))))))) | exact rgt (And.right (And.right (And.right (And.right (And.right (And.right (And.right (And.right (And.right (by assumption)))))))))) | exact rne (And.right (And.right (And.right (And.right (And.right (And.right (And.right (And.right (And.right (by assumption)))))))))) | exact ren (And.right (And.right (And.right (And.right (And.right (And.right (And.right (And.right (And.right (by assumption)))))))))) | exact qlt (And.right (And.right (And.right (And.right (And.right (And.right (And.right (And.right (And.right (And.right (by assumption))))))))))) | exact qgt (And.right (And.right (And.right (And.right (And.right (And.right (And.right (And.right (And.right (And.right (by assumption))))))))))) | exact qne (And.right (And.right (And.right (And.right (And.right (And.right (And.right (And.right (And.right (And.right (by assumption))))))))))) | exact qen (And.right (And.right (And.right (And.right (And.right (And.right (And.right (And.right (And.right (And.right (by assumption))))))))))) | exact rlt (And.right (And.right (And.right (And.right (And.right (And.right (And.right (And.right (And.right (And.right (by assumption))))))))))) | exact rgt (And.right (And.right (And.right (And.right (And.right (And.right (And.right (And.right (And.right (And.right (by assumption))))))))))) | exact rne (And.right (And.right (And.right (And.right (And.right (And.right (And.right (And.right (And.right (And.right (by assumption))))))))))) | exact ren (And.right (And.right (And.right (And.right (And.right (And.right (And.right (And.right (And.right (And.right (by assumption))))))))))) | exact qlt (And.right (And.right (And.right (And.right (And.right (And.right (And.right (And.right (And.right (And.right (And.right (by assumption)))))))))))) | exact qgt (And.right (And.right (And.right (And.right (And.right (And.right (And.right (And.right (And.right (And.right (And.right (by assumption)))))))))))) | exact qne (And.right (And.right (And.right (And.right (And.right (And.right (And.right (And.right (And.right (And.right (And.right (by assumption)))))))))))) | exact qen (And.right (And.right (And.right (And.right (And.right (And.right (And.right (And.right (And.right (And.right (And.right (by assumption)))))))))))) | exact rlt (And.right (And.right (And.right (And.right (And.right (And.right (And.right (And.right (And.right (And.right (And.right (by assumption)))))))))))) | exact rgt (And.right (And.right (And.right (And.right (And.right (And.right (And.right (And.right (And.right (And.right (And.right (by assumption)))))))))))) | exact rne (And.right (And.right (And.right (And.right (And.right (And.right (And.right (And.right (And.right (And.right (And.right (by assumption)))))))))))) | exact ren (And.right (And.right (And.right (And.right (And.right (And.right (And.right (And.right (And.right (And.right (And.right (by assumption)))))))))))) | exact qlt (And.right (And.right (And.right (And.right (And.right (And.right (And.right (And.right (And.right (And.right (And.right (And.right (by assumption))))))))))))) | exact qgt (And.right (And.right (And.right (And.right (And.right (And.right (And.right (And.right (And.right (And.right (And.right (And.right (by assumption))))))))))))) | exact qne (And.right (And.right (And.right (And.right (And.right (And.right (And.right (And.right (And.right (And.right (And.right (And.right (by assumption))))))))))))) | exact qen (And.right (And.right (And.right (And.right (And.right (And.right (And.right (And.right (And.right (And.right (And.right (And.right (by assumption))))))))))))) | exact rlt (And.right (And.right (And.right (And.right (And.right (And.right (And.right (And.right (And.right (And.right (And.right (And.right (by assumption))))))))))))) | exact rgt (And.right (And.right (And.right (And.right (And.right (And.right (And.right (And.right (And.right (And.right (And.right (And.right (by assumption))))))))))))) | exact rne (And.right (And.right (And.right (And.right (And.right (And.right (And.right (And.right (And.right (And.right (And.right (And.right (by assumption))))))))))))) | exact ren (And.right (And.right (And.right (And.right (And.right (And.right (And.right (And.right (And.right (And.right (And.right (And.right (by assumption))))))))))))) | exact qlt (And.right (And.right (And.right (And.right (And.right (And.right (And.right (And.right (And.right (And.right (And.right (And.right (And.right (by assumption)))))))))))))) | exact qgt (And.right (And.right (And.right (And.right (And.right (And.right (And.right (And.right (And.right (And.right (And.right (And.right (And.right (by assumption)))))))))))))) | exact qne (And.right (And.right (And.right (And.right (And.right (And.right (And.right (And.right (And.right (And.right (And.right (And.right (And.right (by assumption)))))))))))))) | exact qen (And.right (And.right (And.right (And.right (And.right (And.right (And.right (And.right (And.right (And.right (And.right (And.right (And.right (by assumption)))))))))))))) | exact rlt (And.right (And.right (And.right (And.right (And.right (And.right (And.right (And.right (And.right (And.right (And.right (And.right (And.right (by assumption)))))))))))))) | exact rgt (And.right (And.right (And.right (And.right (And.right (And.right (And.right (And.right (And.right (And.right (And.right (And.right (And.right (by assumption)))))))))))))) | exact rne (And.right (And.right (And.right (And.right (And.right (And.right (And.right (And.right (And.right (And.right (And.right (And.right (And.right (by assumption)))))))))))))) | exact ren (And.right (And.right (And.right (And.right (And.right (And.right (And.right (And.right (And.right (And.right (And.right (And.right (And.right (by assumption)))))))))))))) | exact qlt (And.right (And.right (And.right (And.right (And.right (And.right (And.right (And.right (And.right (And.right (And.right (And.right (And.right (And.right (by assumption))))))))))))))) | exact qgt (And.right (And.right (And.right (And.right (And.right (And.right (And.right (And.right (And.right (And.right (And.right (And.right (And.right (And.right (by assumption))))))))))))))) | exact qne (And.right (And.right (And.right (And.right (And.right (And.right (And.right (And.right (And.right (And.right (And.right (And.right (And.right (And.right (by assumption))))))))))))))) | exact qen (And.right (And.right (And.right (And.right (And.right (And.right (And.right (And.right (And.right (And.right (And.right (And.right (And.right (And.right (by assumption))))))))))))))) | exact rlt (And.right (And.right (And.right (And.right (And.right (And.right (And.right (And.right (And.right (And.right (And.right (And.right (And.right (And.right (by assumption))))))))))))))) | exact rgt (And.right (And.right (And.right (And.right (And.right (And.right (And.right (And.right (And.right (And.right (And.right (And.right (And.right (And.right (by assumption))))))))))))))) | exact rne (And.right (And.right (And.right (And.right (And.right (And.right (And.right (And.right (And.right (And.right (And.right (And.right (And.right (And.right (by assumption))))))))))))))) | exact ren (And.right (And.right (And.right (And.right (And.right (And.right (And.right (And.right (And.right (And.right (And.right (And.right (And.right (And.right (by assumption))))))))))))))) | exact qlt (And.right (And.right (And.right (And.right (And.right (And.right (And.right (And.right (And.right (And.right (And.right (And.right (And.right (And.right (And.right (by assumption)))))))))))))))) | exact qgt (And.right (And.right (And.right (And.right (And.right (And.right (And.right (And.right (And.right (And.right (And.right (And.right (And.right (And.right (And.right (by assumption)))))))))))))))) | exact qne (And.right (And.right (And.right (And.right (And.right (And.right (And.right (And.right (And.right (And.right (And.right (And.right (And.right (And.right (And.right (by assumption)))))))))))))))) | exact qen (And.right (And.right (And.right (And.right (And.right (And.right (And.right (And.right (And.right (And.right (And.right (And.right (And.right (And.right (And.right (by assumption)))))))))))))))) | exact rlt (And.right (And.right (And.right (And.right (And.right (And.right (And.right (And.right (And.right (And.right (And.right (And.right (And.right (And.right (And.right (by assumption)))))))))))))))) | exact rgt (And.right (And.right (And.right (And.right (And.right (And.right (And.right (And.right (And.right (And.right (And.right (And.right (And.right (And.right (And.right (by assumption)))))))))))))))) | exact rne (And.right (And.right (And.right (And.right (And.right (And.right (And.right (And.right (And.right (And.right (And.right (And.right (And.right (And.right (And.right (by assumption)))))))))))))))) | exact ren (And.right (And.right (And.right (And.right (And.right (And.right (And.right (And.right (And.right (And.right (And.right (And.right (And.right (And.right (And.right (by assumption))))))))))))))))))
  trivial
theorem layOr042 : True := by
  k_with "mine texts" => ((try dsimp only [← sx0, ← sx1, ← sx2, ← sx3, ← sx4, ← sx5, ← sx6, ← sx7, ← sx8, ← sx9, ← sx10, ← sx11, ← sx12, ← sx13, ← sx14, ← sx15, ← sx16, ← sx17, ← sx18, ← sx19, ← sx20, ← sx21, ← sx22, ← sx23, ← sx24, ← sx25, ← sx26, ← sx27, ← sx28, ← sx29, ← sx30, ← sx31, ← sx32, ← sx33, ← sx34, ← sx35, ← sx36, ← sx37, ← sx38, ← sx39, ← sx40, ← sx41, ← sx42, ← sx43, ← sx44, ← sx45, ← sx46, ← sx47, ← sx48, ← sx49, ← sx50, ← sx51, ← sx52, ← sx53, ← sx54, ← sx55, ← sx56, ← sx57, ← sx58, ← sx59, ← sx60, ← sx61, ← sx62, ← sx63, ← sx64, ← sx65, ← sx66, ← sx67, ← sx68, ← sx69, ← sx70, ← sx71, ← sx72, ← sx73, ← sx74, ← sx75, ← sx76, ← sx77, ← sx78, ← sx79, ← sx80]))
  k_with "mine drop" => (first | (refine' Drop.head ?a; (case a => k_all)) | (refine' Drop.tail ?a ?b; (case a => k_ne); (case b => walk_at "mine drop")))
  k_with "setAttr ref" => ((k_here; k_dflt (first | (refine' exc_set0 ?k1 ?k2 ?k3 ?k4 ?k5 ?k6 ?k7 ?k8 ?k9 ?_; (case k1 => k_asm); (case k2 => k_asm); (case k3 => k_asm); (case k4 => k_mem); (case k5 => k_is); (case k6 => kernel_rfl); (case k7 => k_is); (case k8 => k_is); (case k9 => intro zqd; k_upd); k_whole; intro zqdp zqhp zqFp zqNp zql1; (try k_lt zql1)) | (refine' exc_set_args ?k1 ?k2 ?k3 ?k4 ?k5 ?k6 ?k7 ?k8 ?k9 ?k10 ?_; (case k1 => k_asm); (case k2 => k_asm); (case k3 => k_asm); (case k4 => first | (refine' InstAt.of_exc ?N ?h1 ?h2; (case N => k_asm); (case h1 => k_mem); (case h2 => k_mem)) | (refine' InstAt.of_exc0 ?N ?h1; (case N => k_asm); (case h1 => k_mem))); (case k5 => exact isTup_of (by k_asm) (by k_mem)); (case k6 => k_is); (case k7 => kernel_rfl); (case k8 => k_is); (case k9 => k_is); (case k10 => k_upd); k_whole; intro zqhp zqFp zqNp) | (refine' exc_set ?k1 ?k2 ?k3 ?k4 ?k5 ?k6 ?k7 ?k8 ?k9 ?k10 ?k11 ?k12 ?_; (case k1 => k_asm); (case k2 => k_asm); (case k3 => k_asm); (case k4 => first | (refine' InstAt.of_exc ?N ?h1 ?h2; (case N => k_asm); (case h1 => k_mem); (case h2 => k_mem)) | (refine' InstAt.of_exc0 ?N ?h1; (case N => k_asm); (case h1 => k_mem))); (case k5 => k_is); (case k6 => kernel_rfl); (case k7 => k_is); (case k8 => k_is); (case k9 => k_get); (case k10 => k_put); (case k11 => k_upd); (case k12 => exact Nat.le_of_ble_eq_true rfl); k_whole; intro zqhp zqFp zqNp))))
  k_with "call builtin:Exception.__init__" => ((k_here; k_dflt (refine' exc_init_call ?k1 ?k2 ?k3 ?k4 ?k5 ?k6 ?_; (case k1 => k_asm); (case k2 => k_asm); (case k3 => k_asm); (case k4 => first | (refine' InstAt.of_exc ?N ?h1 ?h2; (case N => k_asm); (case h1 => k_mem); (case h2 => k_mem)) | (refine' InstAt.of_exc0 ?N ?h1; (case N => k_asm); (case h1 => k_mem))); (case k5 => k_is); (case k6 => intro zqt; k_upd); k_whole; intro zqtp zqhp zqFp zqNp zql1; (try k_lt zql1))))
  k_with "call builtin:repr" => ((k_here; k_dflt (refine' repr_use ?k1 ?k2 ?k3 ?k4 ?k5 ?k6 ?k7 ?_; (case k1 => assumption); (case k2 => k_asm); (case k3 => k_asm); (case k4 => exact rfl); (case k5 => exact rfl); (case k6 => exact Nat.le_of_ble_eq_true rfl); (case k7 => exact Nat.le_of_ble_eq_true rfl); k_whole; intro zqhp zqup zqtkp zqFp zqNp)))
  k_with "BackIn" => ((k_dflt (refine' back_ ?k1 ?k2 ?k3 ?_; (case k1 => k_asm); (case k2 => k_asm); (case k3 => walk_at "mine drop"); k_whole; intro zqFp zqNp; (try dsimp only))))
  k_with "call ref" => ((k_here; k_dflt (refine wpAny_call ?_; refine' enter_in ?k1 ?k2 ?k3 ?k4 ?k5 ?k6 ?k7 ?k8 ?kB ?c2 ?c3 ?c4 ?c5 ?_; (case k1 => k_asm); (case k2 => k_asm); (case k3 => k_asm); (case k4 => exact Top.nolimit (by assumption)); (case k5 => k_is); (case k6 => k_is); (case k7 => exact Nat.le_of_ble_eq_true rfl); (case k8 => first | ((with_reducible show BindsTo _ _ ⟨[_], []⟩ _); first | exact BindsTo.of_eq (binds := [(_, _)]) rfl | exact binds_K (binds := [(_, _)]) (by k_in) rfl (by k_is) rfl rfl rfl) | ((with_reducible show BindsTo _ _ ⟨[_, _], []⟩ _); first | exact BindsTo.of_eq (binds := [(_, _), (_, _)]) rfl | exact binds_K (binds := [(_, _), (_, _)]) (by k_in) rfl (by k_is) rfl rfl rfl) | ((with_reducible show BindsTo _ _ ⟨[_, _, _], []⟩ _); first | exact BindsTo.of_eq (binds := [(_, _), (_, _), (_, _)]) rfl | exact binds_K (binds := [(_, _), (_, _), (_, _)]) (by k_in) rfl (by k_is) rfl rfl rfl) | ((with_reducible show BindsTo _ _ ⟨[_, _, _, _], []⟩ _); first | exact BindsTo.of_eq (binds := [(_, _), (_, _), (_, _), (_, _)]) rfl | exact binds_K (binds := [(_, _), (_, _), (_, _), (_, _)]) (by k_in) rfl (by k_is) rfl rfl rfl) | ((with_reducible show BindsTo _ _ ⟨[_, _, _, _, _], []⟩ _); first | exact BindsTo.of_eq (binds := [(_, _), (_, _), (_, _), (_, _), (_, _)]) rfl | exact binds_K (binds := [(_, _), (_, _), (_, _), (_, _), (_, _)]) (by k_in) rfl (by k_is) rfl rfl rfl)); (case c5 => decide); (case kB => exact locs rfl); (case c2 => exact rfl); (case c3 => exact rfl); (case c4 => exact rfl); k_whole; intro zqoLp zqLp zqhp zqtkp zqFp zqNp zql1 zqn1; (try k_lt zql1); (try (replace zqn1 := allNe_of zqn1; simp only [AllNe, and_true] at zqn1)); (try dsimp only); walk_at "mine texts")))
  k_with "call builtin:str.join" => ((k_here; (with_reducible show wpAny _ _ (call (Value.builtin "str.join") [Value.str _ _, Value.ref _]) _ _ _); k_dflt (refine join_listC (by is_list) (by repeat constructor) (by decide) (by (simp only [List.map_cons, List.map_nil, List.sum_cons, List.sum_nil, List.length_cons, List.length_nil]; omega)) ?_); intro zqtp zqkp))
  k_with "getMethod type:Exception" => ((k_here; refine' method_type ?F ?X ?m (by decide +kernel) ?e ?h ?_; (case F => k_asm); (case X => k_asm); (case m => exact meta_Exception); (case e => k_dflt k_is); (case h => k_handed)))
  k_with "compareOp IsNot" => ((k_here; k_dflt (refine isNot_none (by assumption) ?_)))
  k_with "call builtin:str.format" => ((k_here; k_dflt (refine' line_use ?k1 ?k2 ?k3 ?k4 ?k5 ?k6 ?k7 ?_; (case k1 => assumption); (case k2 => k_asm); (case k3 => k_asm); (case k4 => exact rfl); (case k5 => exact rfl); (case k6 => exact Nat.le_of_ble_eq_true rfl); (case k7 => exact Nat.le_of_ble_eq_true rfl); k_whole; intro zqhp zqup zqtkp zqFp zqNp)))
  k_with "call builtin:str.format" => ((k_here; (with_reducible show wpAny _ _ (call (Value.builtin "str.format") [Value.str _ _, _, _, _, _]) _ _ _); k_dflt (refine' fmt_use ?k1 ?k2 ?k3 ?k4 ?k5 ?_; (case k1 => k_asm); (case k2 => k_asm); (case k3 => exact ⟨rfl, rfl, Nat.le_of_ble_eq_true rfl, Nat.le_of_ble_eq_true rfl⟩); (case k4 => exact args_5 _ _ _ _ _); (case k5 => walk_at "mine fmt")); k_whole; intro zqhp zqup zqtkp zqFp zqNp))
  k_with "pyReprObj" => ((k_here; k_dflt (refine' reprObj_use ?k1 ?k2 ?k3 ?k4 ?k5 ?k6 ?k7 ?_; (case k1 => assumption); (case k2 => k_asm); (case k3 => k_asm); (case k4 => exact rfl); (case k5 => exact rfl); (case k6 => exact Nat.le_of_ble_eq_true rfl); (case k7 => exact Nat.le_of_ble_eq_true rfl); k_whole; intro zqhp zqup zqtkp zqFp zqNp)))
  trivial
set_option pp.deepTerms false
set_option pp.deepTerms.threshold 40
set_option pp.proofs false
theorem halt_ {P : Prop} (h : Halt P) : P := h
theorem len_led {prog : Program} {w : World} {A : Around} {E : Value → Shared → Prop} {s : Shared} {h₀ : Heap} {L : Addr} {news : List (Addr × Obj)} {l : Addr} {vs : List Value} {n : Nat} {Q : Value → Shared → Prop} (N : News h₀ L s.heap news) (hm : (l, listOf vs.toArray n) ∈ news) (hl : vs.length ≤ 1000)
    (h : ∀ t tk, Q (.int (vs.length : Int) t) { s with toks := tk }) : wpAny (model prog w) A (call (.builtin "len") [.ref l]) Q E s :=
  len_list (News.isList N hm) (by rw [List.size_toArray]; omega) (h _ _)
theorem item_led {prog : Program} {w : World} {A : Around} {E : Value → Shared → Prop} {s : Shared} {h₀ : Heap} {L : Addr} {news : List (Addr × Obj)} {value slice : PySem.Expr} {l : Addr} {vs : List Value} {n : Nat} {j : Int} {u : Tok} {v : Value} {Q : Value → Shared → Prop} (N : News h₀ L s.heap news) (hm : (l, listOf vs.toArray n) ∈ news) (k : Nat) (hj : j = k) (hx : vs[k]? = some v) (hl : vs.length ≤ 1000) (h : Q v s)
    (hs : subscripted slice false (.ref l) (.int j u) = operate [.ref l, .int j u] (getItem (.ref l) (.int j u)) := by with_unfolding_all rfl) :
    wpAny (model prog w) A (subscriptTail value slice (.ref l) (.int j u)) Q E s := by
  subst hj
  have hk : k < vs.length := by
    rcases Nat.lt_or_ge k vs.length with q | q
    · exact q
    · rw [List.getElem?_eq_none q] at hx; cases hx
  exact item_lit N hm (by omega) (by omega) (by simpa using hx) h hs
theorem fits_small {k : Nat} (h : k ≤ 1000) : Builtin.List.listFitsIndex (k : Int) = true := by
  unfold Builtin.List.listFitsIndex
  rw [Bool.and_eq_true, decide_eq_true_eq, decide_eq_true_eq]
  omega
theorem ins_small {us : List Value} {k : Nat} {v : Value} (h : k ≤ us.length) : kl_ins us (k : Int) v = us.take k ++ v :: us.drop k := by
  unfold kl_ins
  have h1 : ¬ ((k : Int) < 0) := by omega
  simp only [if_neg h1, Int.toNat_natCast, Nat.min_eq_left h]
theorem insD_length (xs : List RowD) (d : RowD) : (insD xs d).length = xs.length + 1 := by
  unfold insD
  rw [List.length_append, List.length_cons, List.length_take, List.length_drop]
  have := posD_le xs d xs.length
  omega
theorem foldl_insD_length (ds xs : List RowD) : (ds.foldl insD xs).length = xs.length + ds.length := by
  induction ds generalizing xs with
  | nil => rfl
  | cons d ds ih => rw [List.foldl_cons, ih, insD_length, List.length_cons]; omega
theorem allLt_mem {d : Addr} : ∀ {l : List (Addr × Obj)}, AllLt d l → ∀ p ∈ l, p.1 < d
  | [], _, _, h => nomatch h
  | _ :: _, a, p, h => by
    rcases List.mem_cons.mp h with rfl | h
    · exact a.1
    · exact allLt_mem a.2 p h
theorem ord_ne {oa L : Addr} {oL o : Obj} {news own : List (Addr × Obj)} (hlt : @LT.lt Nat _ L oa ∧ AllLt oa news) (hoff : OwnOff own (((oa, o) :: (L, oL) :: news).map (·.1))) : ∀ p ∈ (L, oL) :: (news ++ own), p.1 ≠ oa := by
  intro p hp
  rcases List.mem_cons.mp hp with rfl | hp
  · exact Nat.ne_of_lt hlt.1
  rcases List.mem_append.mp hp with hp | hp
  · exact Nat.ne_of_lt (allLt_mem hlt.2 p hp)
  · exact hoff p hp _ (.head _)
theorem ins_led {prog : Program} {w : World} {A : Around} {E : Value → Shared → Prop} {s : Shared} {h₀ : Heap} {L : Addr} {m : Str → Option Value} {news news' : List (Addr × Obj)} {D : Addr} {us : List Value} {n k : Nat} {u : Tok} {y : Value} {Q : Value → Shared → Prop} (F : Fr h₀ L s.heap m) (N : News h₀ L s.heap news)
    (U : Upd D (listOf us.toArray n) (listOf (us.take k ++ y :: us.drop k).toArray (n + 1)) news news') (hk : k ≤ us.length) (hl : us.length ≤ 1000) (h : ∀ h', Fr h₀ L h' m → News h₀ L h' news' → Q .none { s with heap := h' }) :
    wpAny (model prog w) A (call (.builtin "list.insert") [.ref D, .int (k : Int) u, y]) Q E s :=
  kl_insert F N (fits_small (Nat.le_trans hk hl)) (by rw [List.toList_toArray]; exact ins_small hk) U (by rw [sizeLine_eq, List.toList_toArray]; omega) h
theorem posD_gt {xs : List RowD} {r x : RowD} {n : Nat} (hx : xs[n]? = some x) (h : keyGt (keyD x) (keyD r) = true) : posD xs r (n + 1) = posD xs r n := by
  rw [posD, hx]; simp only [h, if_true]
theorem posD_stop {xs : List RowD} {r x : RowD} {n : Nat} (hx : xs[n]? = some x) (h : keyGt (keyD x) (keyD r) = false) : posD xs r (n + 1) = n + 1 := by
  rw [posD, hx]; simp only [h, Bool.false_eq_true, if_false]
theorem ordEnd {news own : List (Addr × Obj)} {oa L L' ra : Addr} {oL : Obj} {h₀ h' : Heap} {us vs : List Value} {on rn i k : Nat} {ds : List RowD} {d : RowD} {v : Value} {m0 m₁ : Str → Option Value} {s₁ : Shared} {tk : Nat} {Q : Flow → Shared → Prop}
    (hus : RowsIn news us (sortD (ds.take i))) (hv : RowIn news v d) (hdi : ds[i]? = some d) (hk : k = posD (sortD (ds.take i)) d (sortD (ds.take i)).length) (hr : (ra, listOf vs.toArray rn) ∈ news)
    (hm : ∀ z, z ≠ Str.ofString "row" → z ≠ Str.ofString "at" → m₁ z = m0 z) (hoff : OwnOff own (((oa, listOf us.toArray on) :: (L, oL) :: news).map (·.1)))
    (F : Fr h₀ L' h' m₁) (N : News h₀ L' h' ((oa, listOf (us.take k ++ v :: us.drop k).toArray (on + 1)) :: (L, oL) :: (news ++ own))) :
    InvPostG h₀ L' (fun m' nx => (ra, listOf vs.toArray rn) ∈ nx ∧ J04 oa L oL news ds m0 (i + 1) m' nx) own s₁ Q .next { s₁ with heap := h', toks := tk } := by
  refine InvEndG.intro (nx := (oa, listOf (us.take k ++ v :: us.drop k).toArray (on + 1)) :: (L, oL) :: news) F N ⟨.tail _ (.tail _ hr), _, _, rfl, ?_, hm⟩ hoff ?_ ?_
  · rw [List.take_succ, hdi, Option.toList_some, sortD_snoc, hk]
    exact hus.ins hv
  · intro p hp
    rcases List.mem_cons.mp hp with rfl | hp
    · exact .head _
    rcases List.mem_cons.mp hp with rfl | hp
    · exact .tail _ (.head _)
    · exact .tail _ (.tail _ (List.mem_append_left _ hp))
  · exact fun p hp => .tail _ (.tail _ (List.mem_append_right _ hp))
theorem sortD_length (ds : List RowD) : (sortD ds).length = ds.length := by unfold sortD; rw [foldl_insD_length]; simp
theorem layOr043 : True := by
  k_with "exec For Name Name cons nil" => ((k_here; (rename Fr _ _ _ _ => lF'); (with_unfolding_all refine' For_invVF lF' ?k1 ?k2 ?_; (case k1 => exact rfl); (case k2 => exact rfl); k_whole)))
  k_with "pyIter ref" => ((k_here; refine halt_ ?_))
  k_with "call builtin:len" => ((k_here; refine halt_ ?_))
  k_with "subscriptTail Name BinOp ref int" => ((k_here; refine halt_ ?_))
  k_with "compareOp Gt ref ref" => ((k_here; refine halt_ ?_))
  k_with "WhileStep2" => ((refine halt_ ?_))
  k_with "InvPostG" => ((refine halt_ ?_))
  k_with "call ref" => ((refine halt_ ?_))
  k_with "exec While BoolOp cons nil" => ((k_here; refine halt_ ?_))
  k_with "call builtin:list.insert" => ((k_here; refine halt_ ?_))
  k_with "BackIn" => ((refine halt_ ?_))
  trivial
theorem order04 : ∀ {p : Program} {loose : List Str} {mean : ExcName → Option Value} {mg mb : Str → Option Value} {w : World} {E : Value → Shared → Prop} {s : Shared} {h₀ : Heap} {L : Addr} {m : Str → Option Value} {news : List (Addr × Obj)} {ra : Addr} {vs : List Value} {rn : Nat} {ds : List RowD} {Q : Value → Shared → Prop}
    (F : Fr h₀ L s.heap m) (KX : (hz.heap_137 w.params).In h₀) (T : Top p loose mean mg mb h₀) (N : News h₀ L s.heap news) (hr : (ra, listOf vs.toArray rn) ∈ news) (hd : RowsIn news vs ds) (hl : vs.length ≤ 100)
    (hQ : ∀ h' tk oa us on, Fr h₀ L h' m → News h₀ L h' ((oa, listOf us.toArray on) :: news) → RowsIn news us (sortD ds) → (∀ p ∈ news, p.1 < oa) → Q (.ref oa) { s with heap := h', toks := tk }),
    wpAny (model PySem.Challenge.rw_dm0028_04.prog w) (AD 500 1500) (call (.ref 117) [.ref ra]) Q E s := by
  w_top off
  k_fill
  intro p loose mean mg mb w E s h₀ L m news ra vs rn ds Q F KX T N hr hd hl hQ
  obtain ⟨hh, g, dr, tk, os⟩ := s
  dsimp only at F N hQ
  w_strict (
  refine wpAny_call ?_
  k_dflt (refine' enter_in F KX N T.nolimit ?k5 ?k6 ?k7 ?k8 ?kB ?c2 ?c3 ?c4 ?c5 ?_; (case k5 => k_is); (case k6 => k_is); (case k7 => exact Nat.le_of_ble_eq_true rfl); (case k8 => first | exact BindsTo.of_eq (binds := [(_, _)]) rfl | exact binds_K (binds := [(_, _)]) (KX.keeps F.keep) rfl (by k_is) rfl rfl rfl); (case c5 => decide); (case kB => exact locs rfl); (case c2 => exact rfl); (case c3 => exact rfl); (case c4 => exact rfl))
  intro oL L' h' tk' F' N' l1 l2
  clear F N
  walk_at "mine texts"
  k_steps
  unfold Halt
  with_reducible rename Fr _ _ _ _ => F1
  with_reducible rename News _ _ _ _ => N1
  refine kdl_iter (J04 _ L oL news ds _) rfl (.tail _ (.tail _ hr)) F1 N1 ⟨[], 0, rfl, .nil, fun _ _ _ => rfl⟩ ?zturn ?zdone
  case zdone =>
    rintro m₁ news₁ h tk ⟨us, on, rfl, hus, hm⟩ F2 N2
    rw [map04b hm] at F2
    clear F1 N1
    k_steps
    unfold Halt
    (with_reducible rename Fr _ _ _ _ => F9)
    (with_reducible rename News _ _ _ _ => N9)
    rename _ ∧ AllLt _ news => hlt
    intro hb
    refine hQ _ _ _ us on (hb _ (N9 _ (.tail _ (.head _))).1 F9.keep) (fun p hp => ?zn) (by rw [hd.length, List.take_of_length_le (Nat.le_refl _)] at hus; exact hus) (allLt_mem hlt.2)
    rcases List.mem_cons.mp hp with rfl | hp
    · exact ⟨(N9 _ (.head _)).1, Nat.ne_of_gt hlt.1, (N9 _ (.head _)).2.2⟩
    · exact ⟨(N9 p (.tail _ (.tail _ hp))).1, l2 p hp, (N9 p (.tail _ (.tail _ hp))).2.2⟩
  case zturn =>
    rintro i v m₁ news₁ h tk own hv hoff hl' ⟨us, on, rfl, hus, hm⟩ F2 N2
    obtain ⟨d, hdi, a, t, rn2, rfl, hrow⟩ := hd.get hv
    rw [map04 hm] at F2
    clear F1 N1
    rename _ ∧ AllLt _ news => hlt
    have hne := ord_ne hlt hoff
    have hul : us.length ≤ 1000 := by
      have h1 := hus.length
      rw [sortD_length, List.length_take] at h1
      have h2 := hd.length
      omega
    k_steps
    unfold Halt
    refine len_led N2 (.head _) hul ?_
    intro t5 tk5
    k_steps
    unfold Halt
    with_reducible rename Fr _ _ _ _ => F3
    with_reducible rename News _ _ _ _ => N3
    refine While_inv2 (n₀ := us.length) (W04 (sortD (ds.take i)) d _ _) F3 N3 ⟨?zk1, ?zk2, fun _ q => q, rfl, t5, rfl⟩ ?zw
    case zk1 => rw [← hus.length]; exact Nat.le_refl _
    case zk2 => rw [← hus.length]
    rintro k m₂ nx h₁ tk₁ F4 N4 ⟨hk, hp, _, rfl, t4, rfl⟩
    clear F2 F3 N3 N2
    k_steps
    · unfold Halt
      obtain ⟨k, rfl⟩ : ∃ j, k = j + 1 := ⟨k - 1, by omega⟩
      have hkl : k < us.length := by have := hus.length; omega
      obtain ⟨x, hx, a2, t2, n2, hv2, hm2⟩ := hus.get (List.getElem?_eq_getElem hkl)
      have hv3 : us[k]? = some (.ref a2) := by rw [List.getElem?_eq_getElem hkl, hv2]
      refine item_led N4 (.head _) k (by omega) hv3 hul ?_
      k_steps
      unfold Halt
      refine one_use (ι := Nat → Tok) _ (fun Q E hQ => keyC w _ _ _ ⟨_, News.isList N4 (List.mem_append_left _ (.tail _ (.tail _ hm2)))⟩ Q E (KX.keeps (Fr.keep (by k_asm))) (T.keeps (Fr.keep (by k_asm))) hQ) (by k_asm) (by k_asm) rfl rfl (Nat.le_of_ble_eq_true rfl) (Nat.le_of_ble_eq_true rfl) ?_
      intro h5 tk5 b5 i5 F5 N5 n5
      k_steps
      unfold Halt
      refine one_use (ι := Nat → Tok) _ (fun Q E hQ => keyC w _ _ _ ⟨_, News.isList N5 (.tail _ (List.mem_append_left _ (.tail _ (.tail _ hrow))))⟩ Q E (KX.keeps (Fr.keep (by k_asm))) (T.keeps (Fr.keep (by k_asm))) hQ) (by k_asm) (by k_asm) rfl rfl (Nat.le_of_ble_eq_true rfl) (Nat.le_of_ble_eq_true rfl) ?_
      intro h6 tk6 b6 i6 F6 N6 n6
      k_steps
      unfold Halt
      refine key_gt N6 (.tail _ (.head _)) (.head _) (Nat.le_of_ble_eq_true rfl) ?_
      k_steps
      · unfold Halt
        (with_reducible rename Fr _ _ _ _ => F7)
        (with_reducible rename News _ _ _ _ => N7)
        refine ⟨_, _, _, _, k, rfl, F7, fun p hp => N7 p (.tail _ (.tail _ hp)), Nat.lt_succ_self _, Nat.le_of_succ_le hk, ?zp, fun _ q => q, rfl, ?zt, ?zm⟩
        case zp => rw [← hp]; exact (posD_gt hx (by assumption)).symm
        case zm =>
          have e : ((k + 1 : Nat) : Int) - 1 = (k : Int) := by omega
          rw [e]
          exact map_twice
      · unfold Halt
        (with_reducible rename Fr _ _ _ _ => F7)
        (with_reducible rename News _ _ _ _ => N7)
        refine ins_led (k := k + 1) F7 (fun p hp => N7 p (.tail _ (.tail _ hp))) (.head hne) hkl hul ?_
        intro h8 F8 N8
        k_steps
        unfold Halt
        (with_reducible rename Fr _ _ _ _ => F9)
        (with_reducible rename News _ _ _ _ => N9)
        exact ordEnd hus ⟨a, t, rn2, rfl, hrow⟩ hdi (by rw [← hp]; exact (posD_stop hx (by assumption)).symm) hr (fun z z1 z2 => by simp only [if_neg z1, if_neg z2]) hoff F9 N9
    · unfold Halt
      obtain rfl : k = 0 := by omega
      refine ins_led (k := 0) F4 N4 (.head hne) (Nat.zero_le _) hul ?_
      intro h8 F8 N8
      k_steps
      unfold Halt
      (with_reducible rename Fr _ _ _ _ => F9)
      (with_reducible rename News _ _ _ _ => N9)
      exact ordEnd hus ⟨a, t, rn2, rfl, hrow⟩ hdi (by rw [← hp]; rfl) hr (fun z z1 z2 => by simp only [if_neg z1, if_neg z2]) hoff F9 N9
)
end
section
open PySem PySem.W PySem.Calls PyProof.Rows PySem.SeqAt
set_option Elab.async false
set_option maxRecDepth 100000
set_option maxHeartbeats 4000000
set_option linter.unusedVariables false
abbrev P04 : Program := PySem.Challenge.rw_dm0028_04.prog
noncomputable abbrev KP (w : World) : Frag := hz.heap_137 w.params
section
variable {p : Program} {loose : List Str} {mean : ExcName → Option Value} {mg mb : Str → Option Value}
variable {w : World} {A : Around} {E : Value → Shared → Prop} {s : Shared} {h₀ : Heap} {L : Addr} {m : Str → Option Value} {news : List (Addr × Obj)} {Q : Value → Shared → Prop}
theorem gets_led {expr : Bool} {C e d ta f : Addr} {od : Obj} {name : Str} {v : Value} {K : Frag} (F : Fr h₀ L s.heap m) (X₀ : K.In h₀) (N : News h₀ L s.heap news) (h1 : (e, excObj C (some d) ta) ∈ news) (h2 : (d, od) ∈ news) (c : clsB K C f = true) (n : nameB K C name = true) (hl : lookIn name od = some (some v)) (hv : handedIn v = true)
    (q : Q v { s with toks := s.toks + 1 }) : wpAny (model P04 w) A (getAttr (.ref e) name expr) Q E s := gets_field (X₀.keeps F.keep) (N _ h1).1 (N _ h2).1 c n hl hv A s Q E expr (Grow.refl _) q
theorem args_led {expr : Bool} {C e d ta f : Addr} {od : Obj} {K : Frag} (F : Fr h₀ L s.heap m) (X₀ : K.In h₀) (N : News h₀ L s.heap news) (h1 : (e, excObj C (some d) ta) ∈ news) (h2 : (d, od) ∈ news) (c : clsB K C f = true)
    (q : Q (.ref ta) { s with toks := s.toks + 1 }) : wpAny (model P04 w) A (getAttr (.ref e) (Str.ofString "args") expr) Q E s := gets_args (X₀.keeps F.keep) (N _ h1).1 (N _ h2).1 c A s Q E expr (Grow.refl _) q
theorem tells_led {C e d ta : Addr} {od : Obj} {t : Str} {u : Tok} (X : (KP w).In s.heap) (T : Top p loose mean mg mb s.heap) (he : s.heap.get? e = some (excObj C (some d) ta)) (hd : s.heap.get? d = some od) (c : clsB (KP w) C 36 = true) (n : nameB (KP w) C (Str.ofString "message") = true) (hm : lookIn (Str.ofString "message") od = some (some (.str t u))) :
    Tells P04 w s.heap 36 e t := fun A s' Q E a1 a3 a4 g q => weakenN a1 a3 a4 (msg04 w s' e t u ((gets_field X he hd c n hm rfl).grow g) Q E (X.keeps g) (T.keeps g) fun h' tk u g' => q h' u tk g')
theorem str_led {C e d ta : Addr} {od : Obj} {t : Str} {u : Tok} (F : Fr h₀ L s.heap m) (X₀ : (KP w).In h₀) (T : Top p loose mean mg mb h₀) (N : News h₀ L s.heap news) (h1 : (e, excObj C (some d) ta) ∈ news) (h2 : (d, od) ∈ news) (c : clsB (KP w) C 36 = true) (n : nameB (KP w) C (Str.ofString "message") = true) (hm : lookIn (Str.ofString "message") od = some (some (.str t u)))
    (a1 : A.handled = none) (a3 : A.depth ≤ 850) (a4 : A.units ≤ 4200) (q : ∀ h' u tk, Fr h₀ L h' m → News h₀ L h' news → Q (.str t u) { s with heap := h', toks := tk }) : wpAny (model P04 w) A (call (.type "str") [.ref e]) Q E s :=
  strOk_of (X₀.keeps F.keep) (N _ h1).1 (N _ h2).1 c (tells_led (X₀.keeps F.keep) (T.keeps F.keep) (N _ h1).1 (N _ h2).1 c n hm) A s Q E a1 a3 a4 (Grow.refl _) fun h' u tk g => q h' u tk (fr_grow F g) (news_grow N g)
theorem tup_in {xs : List Value} {a : Addr} (N : News h₀ L s.heap news) (hm : (a, tupObj xs) ∈ news) : s.heap.IsTuple a xs.toArray := ⟨_, (N _ hm).1, rfl, _, rfl⟩
theorem lst_in {xs : Array Value} {a : Addr} {n : Nat} (N : News h₀ L s.heap news) (hm : (a, listOf xs n) ∈ news) : s.heap.IsList a xs := ⟨_, (N _ hm).1, rfl, _, rfl⟩
/-- two rows of values, equal item by item -/
inductive EqT (A : Around) (s : Shared) : List Value → List Value → Prop
  | nil : EqT A s [] []
  | cons {x y : Value} {xs ys : List Value} : EqAt A s x y true → EqT A s xs ys → EqT A s (x :: xs) (y :: ys)
theorem EqT.to {xs ys : List Value} (h : EqT A s xs ys) : xs.length = ys.length ∧ ∀ j (h1 : j < xs.length) (h2 : j < ys.length), EqAt A s xs[j] ys[j] true := by
  induction h with
  | nil => exact ⟨rfl, fun j h1 => absurd h1 (Nat.not_lt_zero _)⟩
  | cons h _ ih =>
    refine ⟨congrArg (· + 1) ih.1, fun j h1 h2 => ?_⟩
    cases j with
    | zero => exact h
    | succ j => exact ih.2 j (Nat.lt_of_succ_lt_succ h1) (Nat.lt_of_succ_lt_succ h2)
theorem EqT.refl : ∀ xs : List Value, EqT A s xs xs
  | [] => .nil
  | _ :: xs => .cons (EqAt.same _) (EqT.refl xs)
theorem all_true (n : Nat) : (List.range n).all (fun _ => true) = true := List.all_eq_true.mpr fun _ _ => rfl
theorem EqT.lists {xs ys : List Value} {a b : Addr} (h : EqT A.in1 s xs ys) (ha : s.heap.IsList a xs.toArray) (hb : s.heap.IsList b ys.toArray) (hu : A.units < cLine) : RcAt A s (.ref a) (.ref b) true := by
  obtain ⟨hl, he⟩ := h.to
  have := RcAt.lists (A := A) (e := fun _ => true) ha hb (by simpa using hl) hu fun j h1 h2 => by simpa using he j (by simpa using h1) (by simpa using h2)
  rwa [all_true] at this
theorem EqT.tup_ne {xs ys : List Value} {a b : Addr} (h : EqT A.in1 s xs ys) (ha : s.heap.IsTuple a xs.toArray) (hb : s.heap.IsTuple b ys.toArray) (hu : A.units < cLine) : RcNeAt A s (.ref a) (.ref b) false := by
  obtain ⟨hl, he⟩ := h.to
  have := RcNeAt.tuples (A := A) (e := fun _ => true) ha hb hu fun j h1 h2 => by simpa using he j (by simpa using h1) (by simpa using h2)
  have e : (!((List.range (min xs.toArray.size ys.toArray.size)).all (fun _ => true) && xs.toArray.size == ys.toArray.size)) = false := by
    rw [all_true, List.size_toArray, List.size_toArray, hl]; simp
  rwa [e] at this
theorem EqT.lst_ne {xs ys : List Value} {a b : Addr} (h : EqT A.in1 s xs ys) (ha : s.heap.IsList a xs.toArray) (hb : s.heap.IsList b ys.toArray) (hu : A.units < cLine) : RcNeAt A s (.ref a) (.ref b) false := by
  obtain ⟨hl, he⟩ := h.to
  have := RcNeAt.lists (A := A) (e := fun _ => true) ha hb (by simpa using hl) hu fun j h1 h2 => by simpa using he j (by simpa using h1) (by simpa using h2)
  rwa [all_true] at this
theorem tup_ne {xs : List Value} {a b : Addr} (N : News h₀ L s.heap news) (m1 : (a, tupObj xs) ∈ news) (m2 : (b, tupObj xs) ∈ news) (hu : A.units < cLine) (q : Q (.bool false) s) : wpAny (model P04 w) A (compareOp .NotEq (.ref a) (.ref b)) Q E s :=
  (EqT.refl (A := A.in1) (s := s) xs).tup_ne (tup_in N m1) (tup_in N m2) hu P04 w E Q q
theorem lst_ne {xs : List Value} {a b : Addr} {n1 n2 : Nat} (N : News h₀ L s.heap news) (m1 : (a, listOf xs.toArray n1) ∈ news) (m2 : (b, listOf xs.toArray n2) ∈ news) (hu : A.units < cLine) (q : Q (.bool false) s) : wpAny (model P04 w) A (compareOp .NotEq (.ref a) (.ref b)) Q E s :=
  (EqT.refl (A := A.in1) (s := s) xs).lst_ne (lst_in N m1) (lst_in N m2) hu P04 w E Q q
theorem oVal_in {src : Option Str} {t : Tok} : handedIn (oVal src t) = true := by cases src <;> rfl
theorem iVal_in {src : Option Int} {t : Tok} : handedIn (iVal src t) = true := by cases src <;> rfl
theorem ne_str_same {prog : Program} {i : Str} {t u : Tok} (q : Q (.bool false) s) : wpAny (model prog w) A (compareOp .NotEq (.str i t) (.str i u)) Q E s := by
  have := RcNeAt.str_str (A := A) (s := s) i t i u
  rw [show (!(i == i)) = false by simp] at this
  exact this prog w E Q q
/-- the last comparison: rows of lists -/
theorem EqAt.row {d : RowD} {t u : Nat → Tok} {a b : Addr} {n1 n2 : Nat} (N : News h₀ L s.heap news) (m1 : (a, listOf (rowL d t).toArray n1) ∈ news) (m2 : (b, listOf (rowL d u).toArray n2) ∈ news) (hu : A.units < cLine) : EqAt A s (.ref a) (.ref b) true := by
  by_cases hab : a = b
  · subst hab; exact EqAt.same _
  · have es : ∀ (x : Str) (t u : Tok), EqAt A.in1 s (.str x t) (.str x u) true := fun x t u => by simpa using EqAt.str_str (A := A.in1) (s := s) x t x u
    have ei : ∀ (x : Int) (t u : Tok), EqAt A.in1 s (.int x t) (.int x u) true := fun x t u => by simpa using EqAt.int_int (A := A.in1) (s := s) x t x u
    refine EqAt.of_refs hab (EqT.lists (.cons (es _ _ _) (.cons (es _ _ _) (.cons ?_ (.cons ?_ .nil)))) (lst_in N m1) (lst_in N m2) hu)
    · cases d.src with
      | none => exact EqAt.same _
      | some x => exact es _ _ _
    · cases d.line with
      | none => exact EqAt.same _
      | some x => exact ei _ _ _
theorem rows_eqT (N : News h₀ L s.heap news) (hu : A.units < cLine) {us vs : List Value} {ds : List RowD} (h : RowsIn news us ds) : RowsIn news vs ds → EqT A s us vs := by
  induction h generalizing vs with
  | nil => intro k; cases k; exact .nil
  | cons h _ ih =>
    intro k
    cases k with
    | cons h' k =>
      obtain ⟨a, t, n, rfl, m1⟩ := h
      obtain ⟨b, u, n', rfl, m2⟩ := h'
      exact .cons (EqAt.row N m1 m2 hu) (ih k)
theorem rows_eq {us vs : List Value} {ds : List RowD} {a b : Addr} {n1 n2 : Nat} (N : News h₀ L s.heap news) (m1 : (a, listOf us.toArray n1) ∈ news) (m2 : (b, listOf vs.toArray n2) ∈ news) (hU : RowsIn news us ds) (hV : RowsIn news vs ds) (hu : A.units + 2 < cLine) (q : Q (.bool true) s) :
    wpAny (model P04 w) A (compareOp .Eq (.ref a) (.ref b)) Q E s :=
  (rows_eqT (A := A.in1) (s := s) N (by show A.units + 1 < cLine; omega) hU hV).lists (lst_in N m1) (lst_in N m2) (by omega) P04 w E Q q
theorem RowsIn.sub {led : List (Addr × Obj)} {us : List Value} {ds : List RowD} (h : RowsIn news us ds) (sub : ∀ p ∈ news, p ∈ led) : RowsIn led us ds := by
  induction h with
  | nil => exact .nil
  | cons h _ ih =>
    obtain ⟨a, t, n, e, m⟩ := h
    exact .cons ⟨a, t, n, e, sub _ m⟩ ih
end
end
section
open PySem PySem.W PySem.Calls PyProof.Rows PySem.SeqAt
set_option Elab.async false
set_option maxRecDepth 100000
set_option maxHeartbeats 4000000
set_option linter.unusedVariables false
def stored04 : List Str := [Str.ofString "x", Str.ofString "rest", Str.ofString "kind", Str.ofString "which", Str.ofString "source", Str.ofString "line", Str.ofString "lineno", Str.ofString "section", Str.ofString "option", Str.ofString "err"]
theorem strs_snoc : ∀ {vs : List Value} {xs : List Str} {y : Str} {t : Tok}, StrsAre vs xs → StrsAre (vs ++ [.str y t]) (xs ++ [y])
  | _, _, y, t, .nil => .cons y t .nil
  | _, _, y, t, .cons z u h => .cons z u (strs_snoc h)
theorem ints_get : ∀ {vs : List Value} {ns : List Int} {i : Nat} {v : Value}, IntsAre vs ns → vs[i]? = some v → ∃ n t, v = .int n t ∧ i < ns.length
  | _, _, 0, _, .cons n t h, e => by cases e; exact ⟨n, t, rfl, Nat.succ_pos _⟩
  | _, _, i + 1, _, .cons n t h, e => by
    obtain ⟨n', t', e', hl⟩ := ints_get h (i := i) e
    exact ⟨n', t', e', Nat.succ_lt_succ hl⟩
/-- between the turns of the law's loop -/
def J4 (ra wa : Addr) (m0 : Str → Option Value) (i : Nat) (m : Str → Option Value) (nx : List (Addr × Obj)) : Prop :=
  ∃ (ds : List RowD) (wv : List Value) (wn : Nat) (rv : List Value) (rn : Nat) (rest : List (Addr × Obj)), nx = (ra, listOf rv.toArray rn) :: (wa, listOf wv.toArray wn) :: rest ∧ ds.length = i ∧ (∀ d ∈ ds, Dom d) ∧ StrsAre wv (ds.map textD) ∧ RowsIn rest rv ds ∧ (∀ p ∈ rest, p.1 ≠ ra ∧ p.1 ≠ wa) ∧ ∀ z, stored04.contains z = false → m z = m0 z
section
variable {prog : Program} {w : World} {A : Around} {E : Value → Shared → Prop} {s : Shared} {env : Env} {h₀ : Heap} {x : Str} {body : List Stmt} {Q : Flow → Shared → Prop}
theorem loop04 {l : Addr} {vs : List Value} {ns : List Int} {m₀ : Str → Option Value} {b1 b2 : Addr × Obj} {ra wa : Addr} (hh : A.handled = none) (hi : IntsAre vs ns) (hlen : ns.length ≤ 42) (hx : stored04.contains x = true)
    (F : Fr h₀ env.locals s.heap m₀) (N : News h₀ env.locals s.heap [(l, listOf vs.toArray 0), b1, b2, (ra, listOf #[] 0), (wa, listOf #[] 0)]) (hd : (l ≠ ra ∧ l ≠ wa) ∧ (b1.1 ≠ ra ∧ b1.1 ≠ wa) ∧ (b2.1 ≠ ra ∧ b2.1 ≠ wa)) (hrw : ra ≠ wa)
    (turn : ∀ (n : Int) (t : Tok) (u : Str → Option Value) (h : Heap) (tk : Nat) (led : List (Addr × Obj)) (ds : List RowD) (wv : List Value) (wn : Nat) (rv : List Value) (rn : Nat), ds.length < 42 → wv.length = ds.length → rv.length = ds.length → (∀ p ∈ led, p.1 ≠ ra ∧ p.1 ≠ wa) → ra ≠ wa →
      Fr h₀ env.locals h (fun y => if y = x then some (.int n t) else if stored04.contains y then u y else m₀ y) → News h₀ env.locals h ((ra, listOf rv.toArray rn) :: (wa, listOf wv.toArray wn) :: led) →
      ∀ (Q' : Flow → Shared → Prop), (∀ (h' : Heap) (tk' : Nat) (m' : Str → Option Value) (d : RowD) (r : Addr) (tt : Nat → Tok) (k : Nat) (ts : Tok) (wn' rn' : Nat), Dom d → Fr h₀ env.locals h' m' → (∀ z, stored04.contains z = false → m' z = m₀ z) →
        News h₀ env.locals h' ((ra, listOf (rv ++ [Value.ref r]).toArray rn') :: (r, listOf (rowL d tt).toArray k) :: (wa, listOf (wv ++ [Value.str (textD d) ts]).toArray wn') :: led) → (∀ p ∈ led, p.1 ≠ r) → r ≠ ra → r ≠ wa → Q' .next { s with heap := h', toks := tk' }) →
      wpAny (model prog w) A (execs body env) Q' E { s with heap := h, toks := tk })
    (done : ∀ (m : Str → Option Value) (h : Heap) (tk : Nat) (led : List (Addr × Obj)) (ds : List RowD) (wv : List Value) (wn : Nat) (rv : List Value) (rn : Nat), ds.length ≤ 42 → (∀ d ∈ ds, Dom d) → StrsAre wv (ds.map textD) → RowsIn led rv ds →
      Fr h₀ env.locals h (fun y => if stored04.contains y then m y else m₀ y) → News h₀ env.locals h ((ra, listOf rv.toArray rn) :: (wa, listOf wv.toArray wn) :: led) → Q .next { s with heap := h, toks := tk }) :
    wpAny (model prog w) A (pyIter (.ref l)) (fun it s₂ => LoopAtV prog w A h₀ env x body Q E it s₂) E s := by
  have map_is : ∀ {m₁ : Str → Option Value} {o : Option Value}, (∀ z, stored04.contains z = false → m₁ z = m₀ z) → (fun y => if y = x then o else m₁ y) = fun y => if y = x then o else if stored04.contains y then m₁ y else m₀ y := by
    intro m₁ o hm
    funext y
    by_cases h1 : y = x
    · rw [if_pos h1, if_pos h1]
    · rw [if_neg h1, if_neg h1]
      cases h2 : stored04.contains y with
      | true => rw [if_pos rfl]
      | false => rw [if_neg Bool.false_ne_true, hm y h2]
  have map_is0 : ∀ {m₁ : Str → Option Value}, (∀ z, stored04.contains z = false → m₁ z = m₀ z) → m₁ = fun y => if stored04.contains y then m₁ y else m₀ y := by
    intro m₁ hm
    funext y
    cases h2 : stored04.contains y with
    | true => rw [if_pos rfl]
    | false => rw [if_neg Bool.false_ne_true, hm y h2]
  refine kdl_iter (m₀ := m₀) (news := [(ra, listOf #[] 0), (wa, listOf #[] 0), (l, listOf vs.toArray 0), b1, b2]) (J4 ra wa m₀) hh (.tail _ (.tail _ (.head _))) F ?_ ⟨[], [], 0, [], 0, _, rfl, rfl, List.forall_mem_nil _, .nil, .nil, ?_, fun _ _ => rfl⟩ ?_ ?_
  · intro p hp
    refine N p ?_
    simp only [List.mem_cons, List.not_mem_nil, or_false] at hp ⊢
    rcases hp with h | h | h | h | h <;> simp [h]
  · intro p hp
    simp only [List.mem_cons, List.not_mem_nil, or_false] at hp
    rcases hp with rfl | rfl | rfl
    · exact hd.1
    · exact hd.2.1
    · exact hd.2.2
  · rintro i v m₁ news₁ h tk own hv hoff hl' ⟨ds, wv, wn, rv, rn, rest, rfl, hdl, hdd, hws, hrs, hne, hm⟩ F1 N1
    obtain ⟨n, t, rfl, hin⟩ := ints_get hi hv
    rw [map_is hm] at F1
    have hwl : wv.length = ds.length := by
      have : ∀ {vs : List Value} {xs : List Str}, StrsAre vs xs → vs.length = xs.length := fun h => by
        induction h with
        | nil => rfl
        | cons _ _ _ ih => simp [ih]
      rw [this hws, List.length_map]
    refine turn n t m₁ h tk (rest ++ own) ds wv wn rv rn (by omega) hwl hrs.length (fun p hp => ?_) hrw F1 N1 _ ?_
    · rcases List.mem_append.mp hp with hp | hp
      · exact hne p hp
      · exact ⟨hoff p hp _ (.head _), hoff p hp _ (.tail _ (.head _))⟩
    · intro h' tk' m' d r tt k ts wn' rn' hdom F2 hm2 N2 hr1 hr2 hr3
      refine InvEndG.intro (nx := (ra, listOf (rv ++ [Value.ref r]).toArray rn') :: (wa, listOf (wv ++ [Value.str (textD d) ts]).toArray wn') :: (r, listOf (rowL d tt).toArray k) :: rest) F2 N2 ⟨?_, ds ++ [d], _, _, _, _, _, rfl, by simp [hdl], ?_, ?_, ?_, ?_, hm2⟩ ?_ ?_ ?_
      · rcases List.mem_cons.mp hl' with e | hl'
        · exact absurd (congrArg Prod.fst e) hd.1.1
        rcases List.mem_cons.mp hl' with e | hl'
        · exact absurd (congrArg Prod.fst e) hd.1.2
        exact .tail _ (.tail _ (.tail _ hl'))
      · intro e he
        rcases List.mem_append.mp he with he | he
        · exact hdd e he
        · rw [List.mem_singleton.mp he]; exact hdom
      · rw [List.map_append]
        exact strs_snoc hws
      · exact (hrs.sub fun p hp => .tail _ hp).append (.cons ⟨r, tt, k, rfl, .head _⟩ .nil)
      · intro p hp
        rcases List.mem_cons.mp hp with rfl | hp
        · exact ⟨hr2, hr3⟩
        · exact hne p hp
      · intro p hp b hb
        simp only [List.map_cons, List.mem_cons, List.mem_map] at hb
        rcases hb with rfl | rfl | rfl | hb
        · exact hoff p hp _ (.head _)
        · exact hoff p hp _ (.tail _ (.head _))
        · exact hr1 p (List.mem_append_right _ hp)
        · obtain ⟨q, hq, rfl⟩ := hb
          exact hoff p hp _ (.tail _ (.tail _ (List.mem_map.mpr ⟨q, hq, rfl⟩)))
      · intro p hp
        rcases List.mem_cons.mp hp with rfl | hp
        · exact .head _
        rcases List.mem_cons.mp hp with rfl | hp
        · exact .tail _ (.tail _ (.head _))
        rcases List.mem_cons.mp hp with rfl | hp
        · exact .tail _ (.head _)
        · exact .tail _ (.tail _ (.tail _ (List.mem_append_left _ hp)))
      · exact fun p hp => .tail _ (.tail _ (.tail _ (List.mem_append_right _ hp)))
  · rintro m₁ news₁ h tk ⟨ds, wv, wn, rv, rn, rest, rfl, hdl, hdd, hws, hrs, hne, hm⟩ F1 N1
    rw [map_is0 hm] at F1
    have hvl : vs.length = ns.length := by
      have : ∀ {vs : List Value} {xs : List Int}, IntsAre vs xs → vs.length = xs.length := fun h => by
        induction h with
        | nil => rfl
        | cons _ _ _ ih => simp [ih]
      exact this hi
    exact done m₁ h tk rest ds wv wn rv rn (by omega) hdd hws hrs F1 N1
theorem base_of {h : Heap} {L : Addr} {x : List (Addr × Obj)} (_ : News h₀ L h x) : ∃ b, b = x := ⟨x, rfl⟩
theorem led2 {h : Heap} {L : Addr} {news led : List (Addr × Obj)} {a b : Addr × Obj} (N : News h₀ L h news) (h1 : a ∈ news) (h2 : b ∈ news) (h3 : ∀ p ∈ led, p ∈ news) : News h₀ L h (a :: b :: led) := fun p hp => by
  rcases List.mem_cons.mp hp with rfl | hp
  · exact N _ h1
  rcases List.mem_cons.mp hp with rfl | hp
  · exact N _ h2
  · exact N _ (h3 p hp)
theorem dom_of {o sec : Str} {src : Option Str} {ln : Option Int} (ho : o ∈ osL) (hs : sec ∈ ssL) (hx : SrcOk src) (hl : LineOk ln) : Dom ⟨o, sec, src, told src ln⟩ := by
  rcases hx with rfl | ⟨x, rfl, hx⟩
  · exact ⟨ho, hs, .inl ⟨rfl, rfl⟩, .inl rfl⟩
  · exact ⟨ho, hs, .inr ⟨x, rfl, hx⟩, hl⟩
/-- a list of the ledger gets one item more -/
theorem app_led {D : Addr} {L : Addr} {m : Str → Option Value} {us : List Value} {n : Nat} {v : Value} {r : List (Addr × Obj)} {Q : Value → Shared → Prop} (F : Fr h₀ L s.heap m) (N : News h₀ L s.heap ((D, listOf us.toArray n) :: r)) (hne : ∀ p ∈ r, p.1 ≠ D) (hl : us.length ≤ 1000)
    (h : ∀ h', Fr h₀ L h' m → News h₀ L h' ((D, listOf (us ++ [v]).toArray (n + 1)) :: r) → Q .none { s with heap := h' }) : wpAny (model prog w) A (call (.builtin "list.append") [.ref D, v]) Q E s :=
  append_K F N (.head hne) (fun h' F' N' => h h' F' (by rw [← List.push_toArray]; exact N')) (by rw [sizeLine_eq, List.size_toArray]; omega)
theorem row_app {L : Addr} {m : Str → Option Value} {rv : List Value} {rn : Nat} {v : Value} {r wa ra : Addr} {ro wo : Obj} {led : List (Addr × Obj)} {Q : Value → Shared → Prop} (F : Fr h₀ L s.heap m) (N : News h₀ L s.heap ((r, ro) :: (wa, wo) :: (ra, listOf rv.toArray rn) :: led))
    (hlt : @LT.lt Nat _ wa r ∧ @LT.lt Nat _ ra r ∧ AllLt r led) (hne : ∀ p ∈ led, p.1 ≠ ra ∧ p.1 ≠ wa) (hrw : ra ≠ wa) (hl : rv.length ≤ 1000)
    (h : ∀ h', Fr h₀ L h' m → News h₀ L h' ((ra, listOf (rv ++ [v]).toArray (rn + 1)) :: (r, ro) :: (wa, wo) :: led) → Q .none { s with heap := h' }) : wpAny (model prog w) A (call (.builtin "list.append") [.ref ra, v]) Q E s := by
  refine app_led (us := rv) (n := rn) (r := (r, ro) :: (wa, wo) :: led) F (fun p hp => N p ?_) (fun p hp => ?_) hl h
  · rcases List.mem_cons.mp hp with rfl | hp
    · exact .tail _ (.tail _ (.head _))
    rcases List.mem_cons.mp hp with rfl | hp
    · exact .head _
    rcases List.mem_cons.mp hp with rfl | hp
    · exact .tail _ (.head _)
    · exact .tail _ (.tail _ (.tail _ hp))
  · rcases List.mem_cons.mp hp with rfl | hp
    · exact Nat.ne_of_gt hlt.2.1
    rcases List.mem_cons.mp hp with rfl | hp
    · exact Ne.symm hrw
    · exact (hne p hp).1
/-- a comprehension over a list whose length is not known -/
theorem comp_rec {elt : Expr} {L : Addr} {m : Str → Option Value} {scope : Scope} {cl : List (Str × Addr)} {S : List (Addr × Obj) → Prop} {P : Nat → Value → Prop} {Fin : List Value → List (Addr × Obj) → Prop} {n : Nat} {news : List (Addr × Obj)} (J : Nat → List Value → List (Addr × Obj) → Prop)
    (h0 : J 0 [] news)
    (turn : ∀ i v ys nx I oI C oC D m₂ h tk (E' : Value → Shared → Prop), i < n → J i ys nx → P i v → LCg.NsObj oC m₂ → m₂ x = some v → Fr h₀ L h m → News h₀ L h ((I, oI) :: (C, oC) :: (D, LCg.lst ys) :: nx) → LCg.Off3 I C D nx → ((@Ne Nat I C) ∧ (@Ne Nat I D) ∧ (@Ne Nat C D)) →
      wpAny (model prog w) A (eval elt (compEnvC scope cl C env)) (LCg.CompEnd h₀ L m { s with heap := h, toks := tk } I oI C oC D (LCg.lst ys) S (fun y news' => J (i + 1) (ys ++ [y]) news')) E' { s with heap := h, toks := tk })
    (fin : ∀ ys nx, J n ys nx → Fin ys nx) : LCg.CompRest prog w A h₀ L m env elt x scope cl s S P Fin n 0 [] news := by
  have key : ∀ (j i : Nat) (ys : List Value) (nx : List (Addr × Obj)), i + j = n → J i ys nx → LCg.CompRest prog w A h₀ L m env elt x scope cl s S P Fin j i ys nx := by
    intro j
    induction j with
    | zero =>
      intro i ys nx e hj
      obtain rfl : i = n := by omega
      exact LCg.CompRest.zero (fin ys nx hj)
    | succ j ih =>
      intro i ys nx e hj
      refine LCg.CompRest.succ ?_
      intro v I oI C oC D m₂ h tk E' hv hC hx F N off ne
      refine wpAny_mono (turn i v ys nx I oI C oC D m₂ h tk E' (by omega) hj hv hC hx F N off ne) (fun y s₂ h₂ => ?_) fun _ _ z => z
      obtain ⟨h', tk', news', e2, F', N', off', hS, r⟩ := h₂
      exact ⟨h', tk', news', e2, F', N', off', hS, ih (i + 1) (ys ++ [y]) news' (by omega) r⟩
  exact key n 0 [] news (by omega) h0
end
end
section
open PySem.SeqAt
theorem lay11 : True := by
  k_with_none
  k_with "ne" => (with_reducible (first | exact ns1 | exact ns2 | exact qlt (by assumption) | exact qgt (by assumption) | exact qne (by assumption) | exact qen (by assumption) | exact rlt (by assumption) | exact rgt (by assumption) | exact rne (by assumption) | exact ren (by assumption) | exact qlt (And.right (by assumption)) | exact qgt (And.right (by assumption)) | exact qne (And.right (by assumption)) | exact qen (And.right (by assumption)) | exact rlt (And.right (by assumption)) | exact rgt (And.right (by assumption)) | exact rne (And.right (by assumption)) | exact ren (And.right (by assumption)) | exact qlt (And.right (And.right (by assumption))) | exact qgt (And.right (And.right (by assumption))) | exact qne (And.right (And.right (by assumption))) | exact qen (And.right (And.right (by assumption))) | exact rlt (And.right (And.right (by assumption))) | exact rgt (And.right (And.right (by assumption))) | exact rne (And.right (And.right (by assumption))) | exact ren (And.right (And.right (by assumption))) | exact qlt (And.right (And.right (And.right (by assumption)))) | exact qgt (And.right (And.right (And.right (by assumption)))) | exact qne (And.right (And.right (And.right (by assumption)))) | exact qen (And.right (And.right (And.right (by assumption)))) | exact rlt (And.right (And.right (And.right (by assumption)))) | exact rgt (And.right (And.right (And.right (by assumption)))) | exact rne (And.right (And.right (And.right (by assumption)))) | exact ren (And.right (And.right (And.right (by assumption)))) | exact qlt (And.right (And.right (And.right (And.right (by assumption))))) | exact qgt (And.right (And.right (And.right (And.right (by assumption))))) | exact qne (And.right (And.right (And.right (And.right (by assumption))))) | exact qen (And.right (And.right (And.right (And.right (by assumption))))) | exact rlt (And.right (And.right (And.right (And.right (by assumption))))) | exact rgt (And.right (And.right (And.right (And.right (by assumption))))) | exact rne (And.right (And.right (And.right (And.right (by assumption))))) | exact ren (And.right (And.right (And.right (And.right (by assumption))))) | exact qlt (And.right (And.right (And.right (And.right (And.right (by assumption)))))) | exact qgt (And.right (And.right (And.right (And.right (And.right (by assumption)))))) | exact qne (And.right (And.right (And.right (And.right (And.right (by assumption)))))) | exact qen (And.right (And.right (And.right (And.right (And.right (by assumption)))))) | exact rlt (And.right (And.right (And.right (And.right (And.right (by assumption)))))) | exact rgt (And.right (And.right (And.right (And.right (And.right (by assumption)))))) | exact rne (And.right (And.right (And.right (And.right (And.right (by assumption)))))) | exact ren (And.right (And.right (And.right (And.right (And.right (by assumption)))))) | exact qlt (And.right (And.right (And.right (And.right (And.right (And.right (by assumption))))))) | exact qgt (And.right (And.right (And.right (And.right (And.right (And.right (by assumption))))))) | exact qne (And.right (And.right (And.right (And.right (And.right (And.right (by assumption))))))) | exact qen (And.right (And.right (And.right (And.right (And.right (And.right (by assumption))))))) | exact rlt (And.right (And.right (And.right (And.right (And.right (And.right (by assumption))))))) | exact rgt (And.right (And.right (And.right (And.right (And.right (And.right (by assumption))))))) | exact rne (And.right (And.right (And.right (And.right (And.right (And.right (by assumption))))))) | exact ren (And.right (And.right (And.right (And.right (And.right (And.right (by assumption))))))) | exact qlt (And.right (And.right (And.right (And.right (And.right (And.right (And.right (by assumption)))))))) | exact qgt (And.right (And.right (And.right (And.right (And.right (And.right (And.right (by assumption)))))))) | exact qne (And.right (And.right (And.right (And.right (And.right (And.right (And.right (by assumption)))))))) | exact qen (And.right (And.right (And.right (And.right (And.right (And.right (And.right (by assumption)))))))) | exact rlt (And.right (And.right (And.right (And.right (And.right (And.right (And.right (by assumption)))))))) | exact rgt (And.right (And.right (And.right (And.right (And.right (And.right (And.right (by assumption)))))))) | exact rne (And.right (And.right (And.right (And.right (And.right (And.right (And.right (by assumption)))))))) | exact ren (And.right (And.right (And.right (And.right (And.right (And.right (And.right (by assumption)))))))) | exact qlt (And.right (And.right (And.right (And.right (And.right (And.right (And.right (And.right (by assumption))))))))) | exact qgt (And.right (And.right (And.right (And.right (And.right (And.right (And.right (And.right (by assumption))))))))) | exact qne (And.right (And.right (And.right (And.right (And.right (And.right (And.right (And.right (by assumption))))))))) | exact qen (And.right (And.right (And.right (And.right (And.right (And.right (And.right (And.right (by assumption))))))))) | exact rlt (And.right (And.right (And.right (And.right (And.right (And.right (And.right (And.right (by assumption))))))))) | exact rgt (And.right (And.right (And.right (And.right (And.right (And.right (And.right (And.right (by assumption))))))))) | exact rne (And.right (And.right (And.right (And.right (And.right (And.right (And.right (And.right (by assumption))))))))) | exact ren (And.right (And.right (And.right (And.right (And.right (And.right (And.right (And.right (by assumption))))))))) | exact qlt (And.right (And.right (And.right (And.right (And.right (And.right (And.right (And.right (And.right (by assumption)))))))))) | exact qgt (And.right (And.right (And.right (And.right (And.right (And.right (And.right (And.right (And.right (by assumption)))))))))) | exact qne (And.right (And.right (And.right (And.right (And.right (And.right (And.right (And.right (And.right (by assumption)))))))))) | exact qen (And.right (And.right (And.right (And.right (And.right (And.right (And.right (And.right (And.right (by assumption)))))))))) | exact rlt (And.right (And.right (And.right (And.right (And.right (And.right (And.right (And.right (And.right (by assumption)))))))))) | exact rgt (And.right (And.right (And.right (And.right (And.right (And.right (And.right (And.right (And.right (by assumption)))))))))) | exact rne (And.right (And.right (And.right (And.right (And.right (And.right (And.right (And.right (And.right (by assumption)))))))))) | exact ren (And.right (And.right (And.right (And.right (And.right (And.right (And.right (And.right (And.right (by assumption)))))))))) | exact qlt (And.right (And.right (And.right (And.right (And.right (And.right (And.right (And.right (And.right (And.right (by assumption))))))))))) | exact qgt (And.right (And.right (And.right (And.right (And.right (And.right (And.right (And.right (And.right (And.right (by assumption))))))))))) | exact qne (And.right (And.right (And.right (And.right (And.right (And.right (And.right (And.right (And.right (And.right (by assumption))))))))))) | exact qen (And.right (And.right (And.right (And.right (And.right (And.right (And.right (And.right (And.right (And.right (by assumption))))))))))) | exact rlt (And.right (And.right (And.right (And.right (And.right (And.right (And.right (And.right (And.right (And.right (by assumption))))))))))) | exact rgt (And.right (And.right (And.right (And.right (And.right (And.right (And.right (And.right (And.right (And.right (by assumption))))))))))) | exact rne (And.right (And.right (And.right (And.right (And.right (And.right (And.right (And.right (And.right (And.right (by assumption))))))))))) | exact ren (And.right (And.right (And.right (And.right (And.right (And.right (And.right (And.right (And.right (And.right (by assumption))))))))))) | exact qlt (And.right (And.right (And.right (And.right (And.right (And.right (And.right (And.right (And.right (And.right (And.right (by assumption)))))))))))) | exact qgt (And.right (And.right (And.right (And.right (And.right (And.right (And.right (And.right (And.right (And.right (And.right (by assumption)))))))))))) | exact qne (And.right (And.right (And.right (And.right (And.right (And.right (And.right (And.right (And.right (And.right (And.right (by assumption)))))))))))) | exact qen (And.right (And.right (And.right (And.right (And.right (And.right (And.right (And.right (And.right (And.right (And.right (by assumption)))))))))))) | exact rlt (And.right (And.right (And.right (And.right (And.right (And.right (And.right (And.right (And.right (And.right (And.right (by assumption)))))))))))) | exact rgt (And.right (And.right (And.right (And.right (And.right (And.right (And.right (And.right (And.right (And.right (And.right (by assumption)))))))))))) | exact rne (And.right (And.right (And.right (And.right (And.right (And.right (And.right (And.right (And.right (And.right (And.right (by assumption)))))))))))) | exact ren (And.right (And.right (And.right (And.right (And.right (And.right (And.right (And.right (And.right (And.right (And.right (by assumption)))))))))))) | exact qlt (And.right (And.right (And.right (And.right (And.right (And.right (And.right (And.right (And.right (And.right (And.right (And.right (by assumption))))))))))))) | exact qgt (And.right (And.right (And.right (And.right (And.right (And.right (And.right (And.right (And.right (And.right (And.right (And.right (by assumption))))))))))))) | exact qne (And.right (And.right (And.right (And.right (And.right (And.right (And.right (And.right (And.right (And.right (And.right (And.right (by assumption))))))))))))) | exact qen (And.right (And.right (And.right (And.right (And.right (And.right (And.right (And.right (And.right (And.right (And.right (And.right (by assumption))))))))))))) | exact rlt (And.right (And.right (And.right (And.right (And.right (And.right (And.right (And.right (And.right (And.right (And.right (And.right (by assumption))))))))))))) | exact rgt (And.right (And.right (And.right (And.right (And.right (And.right (And.right (And.right (And.right (And.right (And.right (And.right (by assumption))))))))))))) | exact rne (And.right (And.right (And.right (And.right (And.right (And.right (And.right (And.right (And.right (And.right (And.right (And.right (by assumption))))))))))))) | exact ren (And.right (And.right (And.right (And.right (And.right (And.right (And.right (And.right (And.right (And.right (And.right (And.right (by assumption))))))))))))) | exact qlt (And.right (And.right (And.right (And.right (And.right (And.right (And.right (And.right (And.right (And.right (And.right (And.right (And.right (by assumption)))))))))))))) | exact qgt (And.right (And.right (And.right (And.right (And.right (And.right (And.right (And.right (And.right (And.right (And.right (And.right (And.right (by assumption)))))))))))))) | exact qne (And.right (And.right (And.right (And.right (And.right (And.right (And.right (And.right (And.right (And.right (And.right (And.right (And.right (by assumption)))))))))))))) | exact qen (And.right (And.right (And.right (And.right (And.right (And.right (And.right (And.right (And.right (And.right (And.right (And.right (And.right (by assumption)))))))))))))) | exact rlt (And.right (And.right (And.right (And.right (And.right (And.right (And.right (And.right (And.right (And.right (And.right (And.right (And.right (by assumption)))))))))))))) | exact rgt (And.right (And.right (And.right (And.right (And.right (And.right (And.right (And.right (And.right (And.right (And.right (And.right (And.right (by assumption)))))))))))))) | exact rne (And.right (And.right (And.right (And.right (And.right (And.right (And.right (And.right (And.right (And.right (And.right (And.right (And.right (by assumption)))))))))))))) | exact ren (And.right (And.right (And.right (And.right (And.right (And.right (And.right (And.right (And.right (And.right (And.right (And.right (And.right (by assumption)))))))))))))) | exact qlt (And.right (And.right (And.right (And.right (And.right (And.right (And.right (And.right (And.right (And.right (And.right (And.right (And.right (And.right (by assumption))))))))))))))) | exact qgt (And.right (And.right (And.right (And.right (And.right (And.right (And.right (And.right (And.right (And.right (And.right (And.right (And.right (And.right (by assumption))))))))))))))) | exact qne (And.right (And.right (And.right (And.right (And.right (And.right (And.right (And.right (And.right (And.right (And.right (And.right (And.right (And.right (by assumption))))))))))))))) | exact qen (And.right (And.right (And.right (And.right (And.right (And.right (And.right (And.right (And.right (And.right (And.right (And.right (And.right (And.right (by assumption))))))))))))))) | exact rlt (And.right (And.right (And.right (And.right (And.right (And.right (And.right (And.right (And.right (And.right (And.right (And.right (And.right (And.right (by assumption))))))))))))))) | exact rgt (And.right (And.right (And.right (And.right (And.right (And.right (And.right (And.right (And.right (And.right (And.right (And.right (And.right (And.right (by assumption))))))))))))))) | exact rne (And.right (And.right (And.right (And.right (And.right (And.right (And.right (And.right (And.right (And.right (And.right (And.right (And.right (And.right (by assumption))))))))))))))) | exact ren (And.right (And.right (And.right (And.right (And.right (And.right (And.right (And.right (And.right (And.right (And.right (And.right (And.right (And.right (by assumption))))))))))))))) | exact qlt (And.right (And.right (And.right (And.right (And.right (And.right (And.right (And.right (And.right (And.right (And.right (And.right (And.right (And.right (And.right (by assumption)))))))))))))))) | exact qgt (And.right (And.right (And.right (And.right (And.right (And.right (And.right (And.right (And.right (And.right (And.right (And.right (And.right (And.right (And.right (by assumption)))))))))))))))) | exact qne (And.right (And.right (And.right (And.right (And.right (And.right (And.right (And.right (And.right (And.right (And.right (And.right (And.right (And.right (And.right (by assumption)))))))))))))))) | exact qen (And.right (And.right (And.right (And.right (And.right (And.right (And.right (And.right (And.right (And.right (And.right (And.right (And.right (And.right (And.right (by assumption)))))))))))))))) | exact rlt (And.right (And.right (And.right (And.right (And.right (And.right (And.right (And.right (And.right (And.right (And.right (And.right (And.right (And.right (And.right (by assumption)))))))))))))))) | exact rgt (And.right (And.right (And.right (And.right (And.right (And.right (And.right (And.right (And.right (And.right (And.right (And.right (And.right (And.right (And.right (by assumption)))))))))))))))) | exact rne (And.right (And.right (And.right (And.right (And.right (And.right (And.right (And.right (And.right (And.right (And.right (And.right (And.right (And.right (And.right (by assumption)))))))))))))))) | exact ren (And.right (And.right (And.right (And.right (And.right (And.right (And.right (And.right (And.right (And.right (And.right (And.right (And.right (And.right (And.right (by assumption))))))))))))))))))
  trivial
theorem lay12 : True := by
  k_with "mine texts" => ((try dsimp only [← sx0, ← sx1, ← sx2, ← sx3, ← sx4, ← sx5, ← sx6, ← sx7, ← sx8, ← sx9, ← sx10, ← sx11, ← sx12, ← sx13, ← sx14, ← sx15, ← sx16, ← sx17, ← sx18, ← sx19, ← sx20, ← sx21, ← sx22, ← sx23, ← sx24, ← sx25, ← sx26, ← sx27, ← sx28, ← sx29, ← sx30, ← sx31, ← sx32, ← sx33, ← sx34, ← sx35, ← sx36, ← sx37, ← sx38, ← sx39, ← sx40, ← sx41, ← sx42, ← sx43, ← sx44, ← sx45, ← sx46, ← sx47, ← sx48, ← sx49, ← sx50, ← sx51, ← sx52, ← sx53, ← sx54, ← sx55, ← sx56, ← sx57, ← sx58, ← sx59, ← sx60, ← sx61, ← sx62, ← sx63, ← sx64, ← sx65, ← sx66, ← sx67, ← sx68, ← sx69, ← sx70, ← sx71, ← sx72, ← sx73, ← sx74, ← sx75, ← sx76, ← sx77, ← sx78, ← sx79, ← sx80]))
  k_with "mine drop" => (first | (refine' Drop.head ?a; (case a => k_all)) | (refine' Drop.tail ?a ?b; (case a => k_ne); (case b => walk_at "mine drop")))
  k_with "setAttr ref" => ((k_here; k_dflt (first | (refine' exc_set0 ?k1 ?k2 ?k3 ?k4 ?k5 ?k6 ?k7 ?k8 ?k9 ?_; (case k1 => k_asm); (case k2 => k_asm); (case k3 => k_asm); (case k4 => k_mem); (case k5 => k_is); (case k6 => kernel_rfl); (case k7 => k_is); (case k8 => k_is); (case k9 => intro zqd; k_upd); k_whole; intro zqdp zqhp zqFp zqNp zql1; (try k_lt zql1)) | (refine' exc_set_args ?k1 ?k2 ?k3 ?k4 ?k5 ?k6 ?k7 ?k8 ?k9 ?k10 ?_; (case k1 => k_asm); (case k2 => k_asm); (case k3 => k_asm); (case k4 => first | (refine' InstAt.of_exc ?N ?h1 ?h2; (case N => k_asm); (case h1 => k_mem); (case h2 => k_mem)) | (refine' InstAt.of_exc0 ?N ?h1; (case N => k_asm); (case h1 => k_mem))); (case k5 => exact isTup_of (by k_asm) (by k_mem)); (case k6 => k_is); (case k7 => kernel_rfl); (case k8 => k_is); (case k9 => k_is); (case k10 => k_upd); k_whole; intro zqhp zqFp zqNp) | (refine' exc_set ?k1 ?k2 ?k3 ?k4 ?k5 ?k6 ?k7 ?k8 ?k9 ?k10 ?k11 ?k12 ?_; (case k1 => k_asm); (case k2 => k_asm); (case k3 => k_asm); (case k4 => first | (refine' InstAt.of_exc ?N ?h1 ?h2; (case N => k_asm); (case h1 => k_mem); (case h2 => k_mem)) | (refine' InstAt.of_exc0 ?N ?h1; (case N => k_asm); (case h1 => k_mem))); (case k5 => k_is); (case k6 => kernel_rfl); (case k7 => k_is); (case k8 => k_is); (case k9 => k_get); (case k10 => k_put); (case k11 => k_upd); (case k12 => exact Nat.le_of_ble_eq_true rfl); k_whole; intro zqhp zqFp zqNp))))
  k_with "call builtin:Exception.__init__" => ((k_here; k_dflt (refine' exc_init_call ?k1 ?k2 ?k3 ?k4 ?k5 ?k6 ?_; (case k1 => k_asm); (case k2 => k_asm); (case k3 => k_asm); (case k4 => first | (refine' InstAt.of_exc ?N ?h1 ?h2; (case N => k_asm); (case h1 => k_mem); (case h2 => k_mem)) | (refine' InstAt.of_exc0 ?N ?h1; (case N => k_asm); (case h1 => k_mem))); (case k5 => k_is); (case k6 => intro zqt; k_upd); k_whole; intro zqtp zqhp zqFp zqNp zql1; (try k_lt zql1))))
  k_with "call builtin:repr" => ((k_here; k_dflt (refine' repr_use ?k1 ?k2 ?k3 ?k4 ?k5 ?k6 ?k7 ?_; (case k1 => assumption); (case k2 => k_asm); (case k3 => k_asm); (case k4 => exact rfl); (case k5 => exact rfl); (case k6 => exact Nat.le_of_ble_eq_true rfl); (case k7 => exact Nat.le_of_ble_eq_true rfl); k_whole; intro zqhp zqup zqtkp zqFp zqNp)))
  k_with "BackIn" => ((k_dflt (refine' back_ ?k1 ?k2 ?k3 ?_; (case k1 => k_asm); (case k2 => k_asm); (case k3 => walk_at "mine drop"); k_whole; intro zqFp zqNp; (try dsimp only))))
  k_with "call ref" => ((k_here; k_dflt (refine wpAny_call ?_; refine' enter_in ?k1 ?k2 ?k3 ?k4 ?k5 ?k6 ?k7 ?k8 ?kB ?c2 ?c3 ?c4 ?c5 ?_; (case k1 => k_asm); (case k2 => k_asm); (case k3 => k_asm); (case k4 => exact Top.nolimit (by assumption)); (case k5 => k_is); (case k6 => k_is); (case k7 => exact Nat.le_of_ble_eq_true rfl); (case k8 => first | ((with_reducible show BindsTo _ _ ⟨[_], []⟩ _); first | exact BindsTo.of_eq (binds := [(_, _)]) rfl | exact binds_K (binds := [(_, _)]) (by k_in) rfl (by k_is) rfl rfl rfl) | ((with_reducible show BindsTo _ _ ⟨[_, _], []⟩ _); first | exact BindsTo.of_eq (binds := [(_, _), (_, _)]) rfl | exact binds_K (binds := [(_, _), (_, _)]) (by k_in) rfl (by k_is) rfl rfl rfl) | ((with_reducible show BindsTo _ _ ⟨[_, _, _], []⟩ _); first | exact BindsTo.of_eq (binds := [(_, _), (_, _), (_, _)]) rfl | exact binds_K (binds := [(_, _), (_, _), (_, _)]) (by k_in) rfl (by k_is) rfl rfl rfl) | ((with_reducible show BindsTo _ _ ⟨[_, _, _, _], []⟩ _); first | exact BindsTo.of_eq (binds := [(_, _), (_, _), (_, _), (_, _)]) rfl | exact binds_K (binds := [(_, _), (_, _), (_, _), (_, _)]) (by k_in) rfl (by k_is) rfl rfl rfl) | ((with_reducible show BindsTo _ _ ⟨[_, _, _, _, _], []⟩ _); first | exact BindsTo.of_eq (binds := [(_, _), (_, _), (_, _), (_, _), (_, _)]) rfl | exact binds_K (binds := [(_, _), (_, _), (_, _), (_, _), (_, _)]) (by k_in) rfl (by k_is) rfl rfl rfl)); (case c5 => decide); (case kB => exact locs rfl); (case c2 => exact rfl); (case c3 => exact rfl); (case c4 => exact rfl); k_whole; intro zqoLp zqLp zqhp zqtkp zqFp zqNp zql1 zqn1; (try k_lt zql1); (try (replace zqn1 := allNe_of zqn1; simp only [AllNe, and_true] at zqn1)); (try dsimp only); walk_at "mine texts")))
  k_with "call builtin:str.join" => ((k_here; (with_reducible show wpAny _ _ (call (Value.builtin "str.join") [Value.str _ _, Value.ref _]) _ _ _); k_dflt (refine join_listC (by is_list) (by repeat constructor) (by decide) (by (simp only [List.map_cons, List.map_nil, List.sum_cons, List.sum_nil, List.length_cons, List.length_nil]; omega)) ?_); intro zqtp zqkp))
  k_with "getMethod type:Exception" => ((k_here; refine' method_type ?F ?X ?m (by decide +kernel) ?e ?h ?_; (case F => k_asm); (case X => k_asm); (case m => exact meta_Exception); (case e => k_dflt k_is); (case h => k_handed)))
  k_with "compareOp IsNot" => ((k_here; k_dflt (refine isNot_none (by assumption) ?_)))
  k_with "call builtin:str.format" => ((k_here; k_dflt (refine' line_use ?k1 ?k2 ?k3 ?k4 ?k5 ?k6 ?k7 ?_; (case k1 => assumption); (case k2 => k_asm); (case k3 => k_asm); (case k4 => exact rfl); (case k5 => exact rfl); (case k6 => exact Nat.le_of_ble_eq_true rfl); (case k7 => exact Nat.le_of_ble_eq_true rfl); k_whole; intro zqhp zqup zqtkp zqFp zqNp)))
  k_with "call builtin:str.format" => ((k_here; (with_reducible show wpAny _ _ (call (Value.builtin "str.format") [Value.str _ _, _, _, _, _]) _ _ _); k_dflt (refine' fmt_use ?k1 ?k2 ?k3 ?k4 ?k5 ?_; (case k1 => k_asm); (case k2 => k_asm); (case k3 => exact ⟨rfl, rfl, Nat.le_of_ble_eq_true rfl, Nat.le_of_ble_eq_true rfl⟩); (case k4 => exact args_5 _ _ _ _ _); (case k5 => walk_at "mine fmt")); k_whole; intro zqhp zqup zqtkp zqFp zqNp))
  k_with "pyReprObj" => ((k_here; k_dflt (refine' reprObj_use ?k1 ?k2 ?k3 ?k4 ?k5 ?k6 ?k7 ?_; (case k1 => assumption); (case k2 => k_asm); (case k3 => k_asm); (case k4 => exact rfl); (case k5 => exact rfl); (case k6 => exact Nat.le_of_ble_eq_true rfl); (case k7 => exact Nat.le_of_ble_eq_true rfl); k_whole; intro zqhp zqup zqtkp zqFp zqNp)))
  trivial
def Wide04 : Prop := True
def Wide05 : Prop := True
theorem strs_len {vs : List Value} {xs : List Str} (h : StrsAre vs xs) : vs.length = xs.length := by
  induction h with
  | nil => rfl
  | cons _ _ _ ih => simp [ih]
theorem strs_at {vs : List Value} {ds : List RowD} {i : Nat} {v : Value} (h : StrsAre vs (ds.map textD)) (e : vs.toArray[i]? = some v) : ∃ d t, ds[i]? = some d ∧ v = .str (textD d) t := by
  have e2 : vs[i]? = some v := by simpa using e
  clear e
  induction ds generalizing vs i with
  | nil => cases h; cases e2
  | cons d ds ih =>
    cases h with
    | cons _ t h =>
      cases i with
      | zero => cases e2; exact ⟨d, t, rfl, rfl⟩
      | succ i => exact ih h e2
theorem stu_fin : ∀ k : Fin 3, Txt.item (Str.ofString "stu") ((k.val : Nat) : Int) ∈ ssL := by decide +kernel
theorem km_fin : ∀ k : Fin 2, Txt.item (Str.ofString "km") ((k.val : Nat) : Int) ∈ osL ∧ Txt.item (Str.ofString "km") ((k.val : Nat) : Int) ≠ Str.ofString "" := by decide +kernel
theorem item_stu {k : Int} (h0 : 0 ≤ k) (h1 : k < 3) : Txt.item (Str.ofString "stu") k ∈ ssL := by
  obtain ⟨j, rfl⟩ := Int.eq_ofNat_of_zero_le h0
  exact stu_fin ⟨j, by omega⟩
theorem item_km {k : Int} (h0 : 0 ≤ k) (h1 : k < 2) : Txt.item (Str.ofString "km") k ∈ osL ∧ Txt.item (Str.ofString "km") k ≠ Str.ofString "" := by
  obtain ⟨j, rfl⟩ := Int.eq_ofNat_of_zero_le h0
  exact km_fin ⟨j, by omega⟩
def Go04 : Prop := True
theorem lay13 : True := by
  k_with "exec For Name BinOp cons nil" => ((k_here; (rename Fr _ _ _ _ => lF'); (with_unfolding_all refine' For_invVF lF' ?k1 ?k2 ?_; (case k1 => exact rfl); (case k2 => exact rfl); k_whole)))
  k_with "pyIter ref" => (((fail_if_success (with_reducible rename Go04 => hgo)); (with_reducible refine halt_ ?_)))
  k_with "eval IfExp" => (((fail_if_success (goal_has Mine.JoinedV)); (fail_if_success (with_reducible rename Wide05 => hv)); (with_reducible refine halt_ ?_)))
  k_with "eval Subscript" => (((with_reducible show wpAny _ _ (eval (Expr.Subscript (Expr.List _ _) _ _) _) _ _ _); (fail_if_success (goal_has Mine.JoinedV)); (with_reducible refine halt_ ?_)))
  k_with "subscriptTail" => (((with_reducible show wpAny _ _ (subscriptTail (Expr.List _ _) _ (Value.ref _) (Value.int _ _)) _ _ _); k_dflt (refine' item_tmp ?k1 ?k2 ?k3 ?k4 ?_; (case k1 => is_list); (case k2 => exact Int.fmod_nonneg_of_pos _ (by decide)); (case k3 => exact Int.fmod_lt_of_pos _ (by decide)); (case k4 => exact Nat.le_of_ble_eq_true rfl)); (with_reducible refine halt_ ?_)))
  k_with "exec If" => (((with_reducible show wpAny _ _ (exec (Stmt.If (Expr.Compare (Expr.Name _ _) _ _ _) _ _ _) _) _ _ _); (fail_if_success (with_reducible rename Wide04 => hw)); (with_reducible refine halt_ ?_)))
  k_with "call ref" => ((k_here; (with_reducible show wpAny _ _ (call (Value.ref 60) [Value.str _ _, _, _]) _ _ _); k_dflt (refine' err_use (fun Q E hQ => conS04 _ _ _ _ _ (by assumption) (by assumption) (by assumption) Q E (by k_in) (Top.keeps (by assumption) (Fr.keep (by k_asm))) hQ) ?k1 ?k2 ?k3 ?k4 ?k5 ?k6 ?_; (case k1 => k_asm); (case k2 => k_asm); (case k3 => exact rfl); (case k4 => exact rfl); (case k5 => exact Nat.le_of_ble_eq_true rfl); (case k6 => exact Nat.le_of_ble_eq_true rfl); k_whole; intro zqhp zqtkp zqep zqdp zqtap zqodp zqup zqFp zqNp zqn1 zqn2 zqn3 zqhm zqhf; (try simp only [AllNe, and_true] at zqn1 zqn2 zqn3); (have hl1 := zqhf _ (.head _)); (have hl2 := zqhf _ (.tail _ (.head _))); (have hl3 := zqhf _ (.tail _ (.tail _ (.head _)))); (dsimp only at hl1 hl2 hl3); clear zqhf)))
  k_with "call ref" => ((k_here; (with_reducible show wpAny _ _ (call (Value.ref 80) [Value.str _ _, Value.str _ _, _, _]) _ _ _); k_dflt (refine' err_use (fun Q E hQ => conO04 _ _ _ _ _ _ (by assumption) (by assumption) (by assumption) (by assumption) (by assumption) Q E (by k_in) (Top.keeps (by assumption) (Fr.keep (by k_asm))) hQ) ?k1 ?k2 ?k3 ?k4 ?k5 ?k6 ?_; (case k1 => k_asm); (case k2 => k_asm); (case k3 => exact rfl); (case k4 => exact rfl); (case k5 => exact Nat.le_of_ble_eq_true rfl); (case k6 => exact Nat.le_of_ble_eq_true rfl); k_whole; intro zqhp zqtkp zqep zqdp zqtap zqodp zqup zqFp zqNp zqn1 zqn2 zqn3 zqhm zqhf; (try simp only [AllNe, and_true] at zqn1 zqn2 zqn3); (have hl1 := zqhf _ (.head _)); (have hl2 := zqhf _ (.tail _ (.head _))); (have hl3 := zqhf _ (.tail _ (.tail _ (.head _)))); (have hl4 := zqhf _ (.tail _ (.tail _ (.tail _ (.head _))))); (dsimp only at hl1 hl2 hl3 hl4); clear zqhf)))
  k_with "call ref" => (((with_reducible show wpAny _ _ (call (Value.ref 103) _) _ _ _); (with_reducible refine halt_ ?_)))
  k_with "call ref" => (((with_reducible show wpAny _ _ (call (Value.ref 117) _) _ _ _); (with_reducible refine halt_ ?_)))
  k_with "call type:str" => ((k_here; (with_reducible show wpAny _ _ (call (Value.type "str") [Value.ref _]) _ _ _); k_dflt (refine' str_led ?k1 ?k2 ?k3 ?k4 ?k5 ?k6 ?k7 ?k8 ?k9 ?ka ?kb ?kc ?_; (case k1 => k_asm); (case k2 => k_asm); (case k3 => assumption); (case k4 => k_asm); (case k5 => k_mem); (case k6 => k_mem); (case k7 => kernel_rfl); (case k8 => kernel_rfl); (case k9 => assumption); (case ka => exact rfl); (case kb => exact Nat.le_of_ble_eq_true rfl); (case kc => exact Nat.le_of_ble_eq_true rfl); k_whole; intro zqhp zqup zqtkp zqFp zqNp)))
  k_with "getAttr ref" => ((k_here; k_dflt (first | ((with_reducible show wpAny _ _ (getAttr _ (PySem.Str.ofString "args") _) _ _ _); refine' args_led (f := 36) ?k1 ?k2 ?k3 ?k4 ?k5 ?k6 ?_; (case k1 => k_asm); (case k2 => k_asm); (case k3 => k_asm); (case k4 => k_mem); (case k5 => k_mem); (case k6 => kernel_rfl)) | (refine' gets_led (f := 36) ?k1 ?k2 ?k3 ?k4 ?k5 ?k6 ?k7 ?k8 ?k9 ?_; (case k1 => k_asm); (case k2 => k_asm); (case k3 => k_asm); (case k4 => k_mem); (case k5 => k_mem); (case k6 => kernel_rfl); (case k8 => assumption); (case k7 => kernel_rfl); (case k9 => first | assumption | exact rfl)))))
  k_with "compareOp NotEq ref ref" => ((k_here; k_dflt (first | (refine' tup_ne (xs := [_, _, _]) ?k1 ?k2 ?k3 ?k4 ?_; (case k1 => k_asm); (case k2 => k_mem); (case k3 => k_mem); (case k4 => exact Nat.le_of_ble_eq_true rfl)) | (refine' tup_ne (xs := [_, _, _, _]) ?k1 ?k2 ?k3 ?k4 ?_; (case k1 => k_asm); (case k2 => k_mem); (case k3 => k_mem); (case k4 => exact Nat.le_of_ble_eq_true rfl)) | (refine' lst_ne (xs := [_, _, _]) ?k1 ?k2 ?k3 ?k4 ?_; (case k1 => k_asm); (case k2 => k_mem); (case k3 => k_mem); (case k4 => exact Nat.le_of_ble_eq_true rfl)) | (with_reducible refine halt_ ?_))))
  k_with "compareOp NotEq str str" => ((k_here; with_reducible refine ne_str_same ?_))
  k_with "compareOp Eq ref ref" => ((with_reducible refine halt_ ?_))
  k_with "call builtin:list.append" => ((with_reducible refine halt_ ?_))
  k_with "eval ListComp" => ((k_here; k_dflt (refine LCg.ListComp_U (F₀ := by k_asm) (by with_unfolding_all rfl) (by decide) (by rfl) (by decide) (by rfl) ?_)))
  k_with "call builtin:sorted" => ((with_reducible refine halt_ ?_))
  k_with "CompSrc" => ((with_reducible refine halt_ ?_))
  k_with "CompEnd" => ((with_reducible refine halt_ ?_))
  trivial
theorem foo : PySem.Challenge.rw_dm0028_04.Holds := by
  w_top off
  refine hz (by
    w_strict (
    k_fill
    intro w s₀ s₁ mg mb G y fa o pm cd doc dV kV ho hd hcd hD hmg hg args vals as L hpre hlay hrd hwl hlo
    have KX : (hz.heap_137 w.params).In _ := InK.keeps _ _ _ (z_facts (fun _ => by kernel_rfl) y).2.1 (Laid.keeps L)
    clear y
    k_behind G ho hd hcd hD hmg hpre hlay hrd hwl hlo cd
    (all_goals try k_fold)
    k_steps
    unfold Halt
    with_reducible rename IntsAre _ ([67, 160] ++ _) => hI
    with_reducible rename Fr _ _ _ _ => lF
    with_reducible rename News _ _ _ _ => lN
    refine loop04 rfl hI (by simp; omega) (by decide +kernel) lF lN ⟨⟨Nat.ne_of_gt (by omega), Nat.ne_of_gt (by omega)⟩, ⟨Nat.ne_of_gt (by dsimp only; omega), Nat.ne_of_gt (by dsimp only; omega)⟩, ⟨Nat.ne_of_gt (by dsimp only; omega), Nat.ne_of_gt (by dsimp only; omega)⟩⟩ (Nat.ne_of_gt (by omega)) ?zturn ?zdone
    case zdone =>
      intro m1 h1 tk1 led ds wv wn rv rn hdl hdd hws hrs F1 N1
      clear lF lN
      have hgo : Go04 := trivial
      have hwl := strs_len hws
      rw [List.length_map] at hwl
      k_steps
      unfold Halt
      with_reducible rename Fr _ _ _ _ => F2
      with_reducible rename News _ _ _ _ => N2
      refine sorted_N_str F2 N2 (News.isList N2 (.tail _ (.head _))) hws (by omega) ?_
      intro h3 vs3 ss3 e3 F3 N3 hS3 hp3 hs3
      obtain ⟨base4, hbase4⟩ := base_of N3
      have hss := sortD_text hdd hp3 hs3
      subst hss
      clear F2 N2
      k_steps
      unfold Halt
      refine LCg.CompSrc.ledger (by rfl) F3 N3 (.head _) (by rw [sizeLine_eq, List.size_toArray]; have := strs_len hS3; rw [List.length_map, sortD_length] at this; omega) ?_
      intro g4
      have hl3 : vs3.toArray.size = (sortD ds).length := by
        have := strs_len hS3
        rw [List.length_map] at this
        rw [List.size_toArray, this]
      have hm4 : ∀ nx : List (Addr × Obj), (∀ p ∈ base4, p ∈ nx) → ∃ ax, (ax, seqObj "list" vs3.toArray e3) ∈ nx ∧ ax = _ := fun nx hb => ⟨_, hb _ (by rw [hbase4]; exact .head _), rfl⟩
      refine comp_rec (fun i ys nx => RowsIn nx ys ((sortD ds).take i) ∧ (∀ p ∈ base4, p ∈ nx)) ⟨.nil, fun p hp => by rw [hbase4] at hp; exact hp⟩ ?zel ?zfin
      case zel =>
        rintro i v ys nx I oI C oC D m2 hh tkk E' hi ⟨hr4, hb4⟩ hv hC' hx' F' N' off' ne'
        obtain ⟨d, td, hdi, rfl⟩ := strs_at hS3 hv
        clear F3 N3
        k_steps
        unfold Halt
        with_reducible rename Fr _ _ _ _ => F5
        with_reducible rename News _ _ _ _ => N5
        refine one_use (ι := Nat → Tok) (fun tt => listOf (rowL d tt).toArray 0) (fun Q E hQ => rowC w _ d (sortD_dom hdd d (List.mem_of_getElem? hdi)) td Q E (KX.keeps F5.keep) (Top.keeps (by assumption) F5.keep) hQ) F5 N5 rfl rfl (Nat.le_of_ble_eq_true rfl) (Nat.le_of_ble_eq_true rfl) ?_
        intro h6 tk6' a6 t6 F6 N6 n6
        clear F5 N5
        k_steps
        unfold Halt
        with_reducible rename Fr _ _ _ _ => F7
        with_reducible rename News _ _ _ _ => N7
        refine ⟨_, _, (a6, listOf (rowL d t6).toArray 0) :: nx, rfl, F7, fun p hp => N7 p ?_, ⟨⟨Ne.symm n6.1, Ne.symm n6.2.1, Ne.symm n6.2.2.1⟩, off'⟩, .inr ⟨_, .tail _ (hb4 _ (by rw [hbase4]; exact .head _)), rfl, _, rfl⟩, ?_, fun p hp => .tail _ (hb4 p hp)⟩
        · rcases List.mem_cons.mp hp with rfl | hp
          · exact .tail _ (.head _)
          rcases List.mem_cons.mp hp with rfl | hp
          · exact .tail _ (.tail _ (.head _))
          rcases List.mem_cons.mp hp with rfl | hp
          · exact .tail _ (.tail _ (.tail _ (.head _)))
          rcases List.mem_cons.mp hp with rfl | hp
          · exact .head _
          · exact .tail _ (.tail _ (.tail _ (.tail _ hp)))
        · rw [List.take_add_one, hdi, Option.toList_some]
          exact (hr4.sub fun p hp => .tail _ hp).append (.cons ⟨a6, t6, 0, rfl, .head _⟩ .nil)
      case zfin =>
        rintro ys nx ⟨hr4, hb4⟩
        rw [hl3, List.take_length] at hr4
        intro D5 h5 tk5 F5 N5 off5
        clear F3 N3
        dsimp only
        k_steps
        unfold Halt
        with_reducible rename Fr _ _ _ _ => F6
        with_reducible rename News _ _ _ _ => N6
        refine weaken rfl rfl (Nat.le_of_ble_eq_true rfl) (Nat.le_of_ble_eq_true rfl) (order04 F6 KX (by assumption) N6 (.tail _ (hb4 _ (by rw [hbase4]; exact .tail _ (.head _)))) (hrs.sub fun p hp => .tail _ (hb4 _ (by rw [hbase4]; exact .tail _ (.tail _ (.tail _ hp))))) (by rw [hrs.length]; omega) ?_)
        intro h7 tk7 oa us on F7 N7 hus hlt
        clear F6 N6
        k_steps
        unfold Halt
        with_reducible rename Fr _ _ _ _ => F8
        with_reducible rename News _ _ _ _ => N8
        refine rows_eq N8 (.tail _ (.head _)) (.head _) (hr4.sub fun p hp => .tail _ (.tail _ hp)) (hus.sub fun p hp => .tail _ hp) (by ke_room) ?_
        k_steps
    case zturn =>
      intro n t u h1 tk1 led ds wv wn rv rn hdl hwl hrl hne hrw F1 N1 Qt hQt
      clear lF lN
      have hgo : Go04 := trivial
      k_steps
      unfold Halt
      with_reducible rename Fr _ _ _ _ => F2
      with_reducible rename News _ _ _ _ => N2
      refine joinV_ (fun v => ∃ src tu, v = oVal src tu ∧ SrcOk src) F2 N2 ?sa ?sb
      case sa =>
        k_steps
        unfold Halt
        (with_reducible rename Fr _ _ _ _ => F3)
        (with_reducible rename News _ _ _ _ => N3)
        intro x hx
        simp only [List.mem_cons, List.not_mem_nil, or_false] at hx
        refine joinedV_ ?_ F3 N3 (fun q hq => List.mem_cons_of_mem _ hq)
        rcases hx with rfl | rfl | rfl | rfl
        · exact ⟨none, 0, rfl, .inl rfl⟩
        · exact ⟨some _, _, rfl, .inr ⟨_, rfl, .head _⟩⟩
        · exact ⟨some _, _, rfl, .inr ⟨_, rfl, .tail _ (.head _)⟩⟩
        · exact ⟨some _, _, rfl, .inr ⟨_, rfl, .tail _ (.tail _ (.head _))⟩⟩
      clear F2 N2
      rintro v2 hh2 tk2 ⟨src, tu, rfl, hsrc⟩ F2 N2
      dsimp only
      k_steps
      unfold Halt
      with_reducible rename Fr _ _ _ _ => F2
      with_reducible rename News _ _ _ _ => N2
      refine joinV_ (fun v => ∃ ln tl, v = iVal ln tl ∧ LineOk ln) F2 N2 ?la ?lb
      case la =>
        k_steps
        · refine joinedV_ ⟨some _, _, rfl, .inr ⟨_, congrArg some (Int.toNat_of_nonneg (Int.fmod_nonneg_of_pos _ (by decide))).symm, ?_⟩⟩ F2 N2 (fun q hq => hq)
          have hz := Int.fmod_nonneg_of_pos (((if n < 0 then -n else n).fdiv 2).fdiv 4) (b := 103) (by decide)
          omega
        · exact joinedV_ ⟨none, 0, rfl, .inl rfl⟩ F2 N2 (fun q hq => hq)
      clear F2 N2
      rintro v3 hh3 tk3 ⟨ln, tl, rfl, hln⟩ F2 N2
      dsimp only
      k_steps
      unfold Halt
      with_reducible rename Fr _ _ _ _ => F4
      with_reducible rename News _ _ _ _ => N4
      have hsec := item_stu (k := ((((if n < 0 then -n else n).fdiv 2).fdiv 4).fdiv 103).fmod 3) (Int.fmod_nonneg_of_pos _ (by decide)) (Int.fmod_lt_of_pos _ (by decide))
      have hop := item_km (k := (((((if n < 0 then -n else n).fdiv 2).fdiv 4).fdiv 103).fdiv 3).fmod 2) (Int.fmod_nonneg_of_pos _ (by decide)) (Int.fmod_lt_of_pos _ (by decide))
      generalize Txt.item (Str.ofString "stu") (((((if n < 0 then -n else n).fdiv 2).fdiv 4).fdiv 103).fmod 3) = sec at *
      generalize Txt.item (Str.ofString "km") ((((((if n < 0 then -n else n).fdiv 2).fdiv 4).fdiv 103).fdiv 3).fmod 2) = op at *
      obtain ⟨hop1, hop2⟩ := hop
      replace N4 := fun p hp => N4 p (.tail _ (.tail _ (.tail _ (.tail _ hp))))
      have hw : Wide04 := trivial
      have hi1 : handedIn (oVal src tu) = true := oVal_in
      have hi2 : handedIn (iVal ln tl) = true := iVal_in
      k_steps
      all_goals (
        unfold Halt
        (with_reducible rename Fr _ _ _ _ => F5)
        (with_reducible rename News _ _ _ _ => N5)
        refine app_led (us := wv) F5 (led2 (led := led) N5 (by k_mem : (_, listOf wv.toArray wn) ∈ _) (by k_mem : (_, listOf rv.toArray rn) ∈ _) (fun p hp => by repeat (first | exact hp | apply List.mem_cons_of_mem))) (fun p hp => by
          rcases List.mem_cons.mp hp with rfl | hp
          · exact hrw
          · exact (hne p hp).2) (by omega) ?_
        clear F5 N5
        intro h6 F6 N6
        have hv : Wide05 := trivial
        have hdom0 := dom_of (o := Str.ofString "") (.head _) hsec hsrc hln
        have hdom1 := dom_of hop1 hsec hsrc hln
        rcases hsrc with rfl | ⟨xs, rfl, hxs⟩
        all_goals (
          dsimp only [oVal] at F6
          dsimp only [told] at N6 hdom0 hdom1
          k_steps
          all_goals first
            | exact absurd (by assumption : (if n < 0 then -n else n).fmod 2 = 0) (by assumption)
            | (
              unfold Halt
              (with_reducible rename Fr _ _ _ _ => F7)
              (with_reducible rename News _ _ _ _ => N7)
              rename _ ∧ _ ∧ AllLt _ led => hlt
              refine row_app F7 N7 hlt hne hrw (by omega) ?_
              clear F7 N7
              intro h8 F8 N8
              k_steps
              (with_reducible rename Fr _ _ _ _ => F9)
              (with_reducible rename News _ _ _ _ => N9)
              first
                | exact hQt _ _ _ _ _ (tk6 _ _ 0 0 0 0) _ _ _ _ hdom1 F9 (fun z zs => by
                    have hns : z ∉ stored04 := by
                      intro h
                      rw [List.contains_iff_mem.mpr h] at zs
                      cases zs
                    simp only [stored04, List.mem_cons, List.not_mem_nil, or_false, not_or] at hns
                    obtain ⟨y1, y2, y3, y4, y5, y6, y7, y8, y9, y10⟩ := hns
                    simp only [if_neg y1, if_neg y2, if_neg y3, if_neg y4, if_neg y5, if_neg y6, if_neg y7, if_neg y8, if_neg y9, if_neg y10, zs]
                    rfl) N9 (fun p hp => Nat.ne_of_lt (allLt_mem hlt.2.2 p hp)) (Nat.ne_of_gt hlt.2.1) (Nat.ne_of_gt hlt.1)
                | exact hQt _ _ _ _ _ (tk6 _ _ _ _ 0 0) _ _ _ _ hdom1 F9 (fun z zs => by
                    have hns : z ∉ stored04 := by
                      intro h
                      rw [List.contains_iff_mem.mpr h] at zs
                      cases zs
                    simp only [stored04, List.mem_cons, List.not_mem_nil, or_false, not_or] at hns
                    obtain ⟨y1, y2, y3, y4, y5, y6, y7, y8, y9, y10⟩ := hns
                    simp only [if_neg y1, if_neg y2, if_neg y3, if_neg y4, if_neg y5, if_neg y6, if_neg y7, if_neg y8, if_neg y9, if_neg y10, zs]
                    rfl) N9 (fun p hp => Nat.ne_of_lt (allLt_mem hlt.2.2 p hp)) (Nat.ne_of_gt hlt.2.1) (Nat.ne_of_gt hlt.1)
                | exact hQt _ _ _ _ _ (tk6 _ _ 0 0 0 0) _ _ _ _ hdom0 F9 (fun z zs => by
                    have hns : z ∉ stored04 := by
                      intro h
                      rw [List.contains_iff_mem.mpr h] at zs
                      cases zs
                    simp only [stored04, List.mem_cons, List.not_mem_nil, or_false, not_or] at hns
                    obtain ⟨y1, y2, y3, y4, y5, y6, y7, y8, y9, y10⟩ := hns
                    simp only [if_neg y1, if_neg y2, if_neg y3, if_neg y4, if_neg y5, if_neg y6, if_neg y7, if_neg y8, if_neg y9, if_neg y10, zs]
                    rfl) N9 (fun p hp => Nat.ne_of_lt (allLt_mem hlt.2.2 p hp)) (Nat.ne_of_gt hlt.2.1) (Nat.ne_of_gt hlt.1)
                | exact hQt _ _ _ _ _ (tk6 _ _ _ _ 0 0) _ _ _ _ hdom0 F9 (fun z zs => by
                    have hns : z ∉ stored04 := by
                      intro h
                      rw [List.contains_iff_mem.mpr h] at zs
                      cases zs
                    simp only [stored04, List.mem_cons, List.not_mem_nil, or_false, not_or] at hns
                    obtain ⟨y1, y2, y3, y4, y5, y6, y7, y8, y9, y10⟩ := hns
                    simp only [if_neg y1, if_neg y2, if_neg y3, if_neg y4, if_neg y5, if_neg y6, if_neg y7, if_neg y8, if_neg y9, if_neg y10, zs]
                    rfl) N9 (fun p hp => Nat.ne_of_lt (allLt_mem hlt.2.2 p hp)) (Nat.ne_of_gt hlt.2.1) (Nat.ne_of_gt hlt.1))))
))
end
end Mine
end
theorem PySem.Challenge.cw_dm0028_04_holds : PySem.Challenge.rw_dm0028_04.Holds :=
  Mine.foo
