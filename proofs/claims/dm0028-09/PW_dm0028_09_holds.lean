import PyProof.Rows.All
import Wide.All
import OpenK.AllK
import Wide.FinOn
import PySem.Challenge.RW_dm0028_09
set_option Elab.async false
section
namespace Mine
section
variable {a b : Nat} {y : Prop}
theorem qlt (h : a < b ∧ y) : a ≠ b := Nat.ne_of_lt (h.1)
theorem rlt (h : a < b) : a ≠ b := Nat.ne_of_lt (h)
theorem qgt (h : b < a ∧ y) : a ≠ b := Nat.ne_of_gt (h.1)
theorem rgt (h : b < a) : a ≠ b := Nat.ne_of_gt (h)
theorem qne (h : a ≠ b ∧ y) : a ≠ b := h.1
theorem rne (h : a ≠ b) : a ≠ b := h
theorem qen (h : b ≠ a ∧ y) : a ≠ b := Ne.symm (h.1)
theorem ren (h : b ≠ a) : a ≠ b := Ne.symm (h)
theorem ns1 : a ≠ a + 1 := Nat.ne_of_lt (Nat.lt_succ_self _)
theorem ns2 : a + 1 ≠ a := Nat.ne_of_gt (Nat.lt_succ_self _)
end
end Mine
end
section
open PySem PySem.W PySem.Calls PyProof.Rows
set_option Elab.async false
set_option maxRecDepth 100000
set_option maxHeartbeats 4000000
namespace Mine
section
variable {prog : Program} {w : World} {A : Around} {R : Result → Shared → Prop} {h : Heap} {g : Array GenState} {d : Drawn} {t : Nat} {os : OsState}
variable {nm q : Str} {C N : Addr} {bs bm : List Value} {hdct : Bool} {sn : List Str} {sub : List Value} {ab : Bool} {col : Option Bool} {dd : Option Addr} {k0 k1 k2 k3 k5 : Option Value}

abbrev excObj (C : Addr) (d : Option Addr) (t : Addr) : Obj := ⟨.ref C, d, .fields #[.ref t, .none, .none, .none, .bool false, .none], #[]⟩
abbrev tupObj (vs : List Value) : Obj := { cls := .type "tuple", data := .seq vs.toArray }

theorem exc_new {rest : List Value} {kw : List (Str × Value)} (hC : h.get? C = some (excClassObj nm q C N bs bm hdct sn sub ab col dd k0 k1 k2 k3 k5 "Exception.__new__"))
    (hcB : (Value.ref C :: bm).contains (.type "Exception") = true) (hcA : (Value.ref C :: bm).contains (.type "AttributeError") = false) (hcN : (Value.ref C :: bm).contains (.type "NameError") = false)
    (hq : R (.ok (.ret (.ref (h.objs.size + 1)))) ⟨(h.push (tupObj rest)).push (excObj C none h.objs.size), g, d, t, os⟩) (hrest : rest.length ≤ sizeLine) :
    codeAny (model prog w) A (.builtin "Exception.__new__" ⟨.ref C :: rest, kw⟩) R ⟨h, g, d, t, os⟩ := by
  have F := PySem.F.excBase_Exception
  have hends := F.ends
  refine codeAny_builtinAt F.entry ?_
  unfold Builtin.«BaseException.__new__»
  refine PySem.wpAt_bind ?_
  show PySem.wpAt _ _ _ (stack >>= _) _ _ _
  refine PySem.wpAt_bind (PySem.wpAt_stack fun p below => PySem.wpAt_of_wpAny ?_)
  wp_walk
  refine PySem.wpAt_of_wpAny ?_
  rw [F.owner]
  repeat (first | with_reducible refine wpAny_madeHere_exc F.canon hC ?_ | with_reducible refine wpAny_loadPart_at hC ?_ | (with_reducible refine wpAny_isSubtype_exc hC ?_; first | rw [hcB] | rw [hcA] | rw [hcN]) | wp_step)
  show R _ _
  rw [Heap.size_push]
  exact hq

theorem exc_check_new {M : Model} {E : Value → Shared → Prop} {rest : List Value} {kw : List (Str × Value)} {Q : Unit → Shared → Prop} (hC : h.get? C = some (excClassObj nm q C N bs bm hdct sn sub ab col dd k0 k1 k2 k3 k5 "Exception.__new__"))
    (hcB : (Value.ref C :: bm).contains (.type "Exception") = true)
    (hq : Q () ⟨h, g, d, t, os⟩) : wpAny M A (checkBuiltinCall "Exception.__new__" ⟨.ref C :: rest, kw⟩) Q E ⟨h, g, d, t, os⟩ := by
  have F := PySem.F.excBase_Exception
  have hstar := F.noStar
  simp only [checkBuiltinCall, F.newKind, F.newSplit, F.newRow]
  repeat (first | refine wpAny_loadPart_at hC ?_ | (refine wpAny_isSubtype_exc hC ?_; rw [hcB]) | refine wpAny_staticBase_exc hC ?_ | refine wpAny_madeBy_exc hC ?_ | simp only [bne_self_eq_false, Bool.false_eq_true, if_false] | wp_step)
  exact hq
end
end Mine
end
section
open PySem PySem.W PySem.Calls PyProof.Rows
set_option Elab.async false
set_option maxRecDepth 100000
set_option maxHeartbeats 4000000
namespace Mine
section
variable {prog : Program} {w : World} {A : Around} {R : Result → Shared → Prop} {h : Heap} {g : Array GenState} {d : Drawn} {t : Nat} {os : OsState}
variable {nm q : Str} {C N : Addr} {bs bm : List Value} {hdct : Bool} {sn : List Str} {sub : List Value} {ab : Bool} {col : Option Bool} {dd : Option Addr} {k0 k1 k2 k3 k5 : Option Value}

theorem exc_make {rest : List Value} {kw : List (Str × Value)} {fI : Addr} (hC : h.get? C = some (excClassObj nm q C N bs bm hdct sn sub ab col dd k0 k1 k2 k3 k5 "Exception.__new__"))
    (hcB : (Value.ref C :: bm).contains (.type "Exception") = true) (hcA : (Value.ref C :: bm).contains (.type "AttributeError") = false) (hcN : (Value.ref C :: bm).contains (.type "NameError") = false)
    (call : Looks (model prog w) h (specialOf (.ref C) "__call__") (some (.builtin "type.__call__"))) (typ : Looks (model prog w) h (isInstance (.ref C) (.type "type")) true)
    (hi : Looks (model prog w) h (typeLookup (.ref C) "__init__") (some (.ref fI))) (hb : ∀ self, Looks (model prog w) h (bindSpecial (.ref fI) self) (.ref fI, [self])) (hrest : rest.length ≤ sizeLine)
    (hq : codeAny (model prog w) (A.under (.builtin "type.__call__" ⟨.ref C :: rest, kw⟩)) (.call (.ref fI) ⟨.ref (h.objs.size + 1) :: rest, kw⟩) (InitBack (h.objs.size + 1) R) ⟨(h.push (tupObj rest)).push (excObj C none h.objs.size), g, d, t, os⟩) :
    codeAny (model prog w) A (.call (.ref C) ⟨rest, kw⟩) R ⟨h, g, d, t, os⟩ := by
  refine codeAny_of_tree ?_
  show wpAny _ _ (callAny (.ref C) _) _ _ _
  refine nd_load hC ?_
  show wpAny _ _ (callAny.viaDunder (.ref C) _) _ _ _
  unfold callAny.viaDunder
  refine wpAny_bind (call.at ?_)
  dsimp only
  rw [tc_bind]
  refine wpAny_bind (wpAny_pure (wpAny_bind (wpAny_pure ?_)))
  refine wpAny_pure (a := Fin.again (.call (.builtin "type.__call__") ⟨.ref C :: rest, kw⟩)) (And.intro rfl ?_)
  refine codeAny_call_builtin_at (Code.quiet_builtin _ (by decide +kernel)) entry_typeCall (check_slot tc_kind tc_split typ (tc_args _ _ _) ?_)
  unfold Builtin.«type.__call__»
  have hm : Looks (model prog w) h (mroOf (.ref C)) (.ref C :: bm) := ((Looks.ld (part := none) hC).andThen .now).andThen .now
  have made : Looks (model prog w) h (Bind.madeBy (.ref C)) (some "Exception.__new__") := by
    intro A Q E s k q
    obtain ⟨hh, g, d, t, os⟩ := s
    exact wpAny_madeBy_exc (k _ _ hC) q
  repeat (first | with_reducible refine wpAny_call ?_ | lk)
  refine codeAny_call_builtin_code (Code.quiet_builtin _ PySem.F.excBase_Exception.quiet) (exc_check_new hC hcB ?_)
  refine exc_new hC hcB hcA hcN ?_ hrest
  have k : ∀ b o, h.get? b = some o → ((h.push (tupObj rest)).push (excObj C none h.objs.size)).get? b = some o := fun b o e => Heap.get?_push_of_some _ (Heap.get?_push_of_some _ e)
  have hx : ((h.push (tupObj rest)).push (excObj C none h.objs.size)).get? (h.objs.size + 1) = some (excObj C none h.objs.size) := by heap_get
  have t1 : Looks (model prog w) ((h.push (tupObj rest)).push (excObj C none h.objs.size)) (typeOf (.ref (h.objs.size + 1))) (.ref C) := (Looks.ld hx).andThen .now
  have s1 : Looks (model prog w) ((h.push (tupObj rest)).push (excObj C none h.objs.size)) (isSubtype (.ref C) (.ref C)) true := by
    intro A Q E s k' q
    obtain ⟨hh, g, d, t, os⟩ := s
    exact wpAny_isSubtype_exc (k' _ _ (k _ _ hC)) (by rw [show (Value.ref C :: bm).contains (.ref C) = true from by simp]; exact q)
  have i1 := hi.keeps k
  have b1 := (hb (.ref (h.objs.size + 1))).keeps k
  unfold isInstance callSpecial? specialOf
  repeat (first | with_reducible refine wpAny_call ?_ | lk)
  refine codeAny_mono hq fun r s' z => ?_
  rcases r with e | (v | _ | _ | _) <;> first | exact z | exact z.elim | skip
  obtain ⟨rfl, z⟩ := z
  exact wpAny_pure (wpAny_pure z)
end
end Mine
end
section
open PySem PySem.W PySem.Calls PyProof.Rows PySem.Builtin PySem.Builtin.ObjectAttr
set_option Elab.async false
set_option maxRecDepth 100000
set_option maxHeartbeats 4000000
namespace Mine
def excTail : List Value → Bool
  | [.type a, .type b, .type c] => a == "Exception" && b == "BaseException" && c == "object"
  | .ref _ :: r => excTail r
  | _ => false
theorem refuse_base (self : Value) : refuseLoop self "__setattr__" [.type "Exception", .type "BaseException", .type "object"] = pure () := by kernel_rfl
theorem excTail_cases {l : List Value} (e : excTail l = true) : (∃ a b c, l = [.type a, .type b, .type c] ∧ a = "Exception" ∧ b = "BaseException" ∧ c = "object") ∨ (∃ a r, l = .ref a :: r ∧ excTail r = true) := by
  unfold excTail at e
  split at e
  · rename_i a b c
    simp only [Bool.and_eq_true, beq_iff_eq] at e
    exact .inl ⟨a, b, c, rfl, e.1.1, e.1.2, e.2⟩
  · rename_i a r; exact .inr ⟨a, r, rfl, e⟩
  · cases e
theorem refuse_exc (self : Value) : ∀ {l : List Value}, excTail l = true → refuseLoop self "__setattr__" l = pure ()
  | l, e => by
    rcases excTail_cases e with ⟨a, b, c, rfl, rfl, rfl, rfl⟩ | ⟨a, r, rfl, e'⟩
    · exact refuse_base self
    · rw [refuseLoop_ref]; exact refuse_exc self e'
termination_by l => l.length
theorem excTail_obj : ∀ {l : List Value}, excTail l = true → l.contains (.type "object") = true
  | l, e => by
    rcases excTail_cases e with ⟨a, b, c, rfl, rfl, rfl, rfl⟩ | ⟨a, r, rfl, e'⟩
    · decide
    · rw [List.contains_cons, excTail_obj e', Bool.or_true]
termination_by l => l.length
def excOver (K : Frag) (C : Addr) : Bool := (clsIn K C).any fun cd => excTail cd.mro

section
variable {prog : Program} {w : World} {A : Around} {K : Frag} {C x : Addr} {s : Shared} {h₀ : Heap} {L : Addr} {m : Str → Option Value} {news : List (Addr × Obj)} {R : Result → Shared → Prop}
theorem exc_osa_open {ox : Obj} {od : Option Obj} {name : Str} {tk : Tok} {v : Value} {r : Option Value} (X : K.In s.heap) (I : InstAt s.heap x ox C od) (hp : excOver K C = true) (ht : takerIn K C name = some r)
    (h : ∀ b, wpAny (model prog w) A.in1 (match r with | some a => setByDescriptor a (.ref x) v | none => storeInOwnDict (.ref x) (.ref C) (.str name tk) name v b)
      (fun fin s' => match fin with | .done f => R (.ok f) s' | .again c' => c'.quiet = true ∧ codeAny (model prog w) A c' R s') (fun e s' => R (.error e) s') s) :
    codeAny (model prog w) A (.call (.builtin "object.__setattr__") ⟨[.ref x, .str name tk, v], []⟩) R s := by
  have SF := PySem.F.store_object
  obtain ⟨cd, hc, ho⟩ := any_some hp
  have ne : cd.mro.isEmpty = false := by cases q : cd.mro with | nil => rw [q] at ho; cases ho | cons _ _ => rfl
  have sub : Looks (model prog w) s.heap (isInstance (.ref x) (.type "object")) true := I.type.andThen (looks_mroIn X (by unfold mroIn; rw [hc, Option.bind_some, if_neg (by rw [ne]; decide), excTail_obj ho]))
  refine codeAny_call_builtin SF.slot.plain SF.entry (@check_slot (model prog w) _ _ s "object.__setattr__" "object" "__setattr__" (.ref x) [.str name tk, v] [] _ SF.kind SF.split sub (SF.args (.ref x) (.str name tk) v) ?_)
  obtain ⟨attr, ha, hr⟩ := Option.bind_eq_some_iff.mp ht
  have hm : Looks (model prog w) s.heap (mroOf (.ref C)) cd.mro := (looks_clsIn X hc).andThen .now
  have L3 : Looks (model prog w) s.heap (storeTaker? attr) r := by
    cases attr with
    | none => cases hr; exact .now
    | some a =>
      obtain ⟨b, hb, rfl⟩ := Option.map_eq_some_iff.mp hr
      refine (looks_takesIn X hb).andThen ?_
      cases b <;> exact .now
  rw [osa_eq, refuse_eq]
  refine wpAny_bind (wpAny_bind (I.type.here (wpAny_bind (hm.here ?_))))
  rw [refuse_exc _ ho]
  refine wpAny_pure (wpAny_bind (I.type.here (wpAny_bind ((looks_findIn X ha).here (wpAny_bind (L3.here ?_))))))
  exact h _
end
end Mine
end
section
open PySem PySem.W PySem.Calls PyProof.Rows PySem.Builtin PySem.Builtin.ObjectAttr
set_option Elab.async false
set_option maxRecDepth 100000
set_option maxHeartbeats 4000000
namespace Mine
section
variable {prog : Program} {w : World} {A : Around} {E : Value → Shared → Prop} {K : Frag} {C x dx ta : Addr} {s : Shared} {h₀ : Heap} {L : Addr} {m : Str → Option Value} {news news' : List (Addr × Obj)} {R : Result → Shared → Prop}
theorem InstAt.of_exc {h : Heap} {od : Obj} (N : News h₀ L h news) (h1 : (x, excObj C (some dx) ta) ∈ news) (h2 : (dx, od) ∈ news) : InstAt h x (excObj C (some dx) ta) C (some od) := ⟨(N _ h1).1, rfl, rfl, (N _ h2).1⟩
theorem InstAt.of_exc0 {h : Heap} (N : News h₀ L h news) (h1 : (x, excObj C none ta) ∈ news) : InstAt h x (excObj C none ta) C none := ⟨(N _ h1).1, rfl, rfl, trivial⟩

/-- the store into an own dict that stands -/
theorem exc_osa_dict {od od' : Obj} {name : Str} {tk : Tok} {v : Value} {pre post : List (Addr × Obj)} {es : List DictEntry} {n : Nat} (F : Fr h₀ L s.heap m) (N : News h₀ L s.heap (pre ++ (dx, od) :: post)) (X : K.In s.heap)
    (I : InstAt s.heap x (excObj C (some dx) ta) C (some od)) (hp : excOver K C = true) (ht : takerIn K C name = some none) (hh : hasDictIn K C = true)
    (hl : (lookIn name od).isSome = true) (h1 : ∀ p ∈ pre, p.1 ≠ dx) (h2 : ∀ p ∈ post, p.1 ≠ dx)
    (e : Obj.putName name (PyData.keyHash w.params name) (.str name s.toks) v od = od') (e' : od'.data = .dict es.toArray n) (hz : es.length ≤ 1000)
    (h : ∀ h', Fr h₀ L h' m → News h₀ L h' (pre ++ (dx, od') :: post) → R (.ok (.ret .none)) { s with heap := h', toks := s.toks + 1 }) :
    codeAny (model prog w) A (.call (.builtin "object.__setattr__") ⟨[.ref x, .str name tk, v], []⟩) R s := by
  refine exc_osa_open X I hp ht fun b => ?_
  obtain ⟨cd, hc, hd'⟩ := any_some hh
  obtain ⟨U1, U2⟩ := news_upd (f := Obj.putName name (PyData.keyHash w.params name) (.str name s.toks) v) F N h1 h2 e (by obtain ⟨_, _, dd, _⟩ := od'; cases e'; rfl)
  have D := (N (dx, od) (by simp)).1
  have D' := (U2 (dx, od') (by simp)).1
  obtain ⟨hx, -, -, -⟩ := I
  refine wpAny_bind (wpAny_pure (wpAny_bind (wpAny_bind (wpAny_loadPart hx (wpAny_bind ((looks_clsIn X hc).here ?_))))))
  rw [hd']
  refine wpAny_pure (a := some dx) (wpAny_bind (wpAny_pure (wpAny_bind ?_)))
  unfold nsSet
  refine wpAny_bind (wpAny_bind (wpAny_askSetting (wpAny_pure (wpAny_bind (wpAny_mkText (wpAny_bind (wpAny_loadPart D ?_)))))))
  unfold lookIn at hl
  split at hl
  · rename_i es₀ n₀ q
    rw [q]
    dsimp only
    have c : (!es₀.any (·.key.isStr name) && es₀.any (·.refKey)) = false := by
      rw [← Array.any_toList, ← Array.any_toList]
      split at hl
      · rename_i en he
        rw [List.any_eq_true.mpr ⟨en, List.mem_of_find?_eq_some he, List.find?_some he⟩]; rfl
      · split at hl
        · cases hl
        · rename_i z; rw [Bool.not_eq_true] at z; rw [z, Bool.and_false]
    rw [aRefKeyMayBeTheName_at, c]
    refine wpAny_updatePart D ?_
    refine wpAny_bind (wpAny_lookBehind D' (by rw [e']; exact pastItsLine_dict (by rw [List.size_toArray, sizeLine_eq]; omega)) ?_)
    exact wpAny_pure (h _ U1 U2)
  · cases hl

theorem exc_set {es es' : List DictEntry} {n n' : Nat} {name : Str} {v : Value} {Q : Unit → Shared → Prop} (F : Fr h₀ L s.heap m) (X₀ : K.In h₀) (N : News h₀ L s.heap news) (I : InstAt s.heap x (excObj C (some dx) ta) C (some (dictOf es n)))
    (hs : findIn K (.ref C) "__setattr__" = some (some (.builtin "object.__setattr__"))) (hp : excOver K C = true) (ht : takerIn K C name = some none) (hh : hasDictIn K C = true) (hl : (getL name es).isSome = true)
    (e : (putL name (PyData.keyHash w.params name) (.str name (s.toks + 1)) v es, putN name es n) = (es', n')) (U : Upd dx (dictOf es n) (dictOf es' n') news news') (hz : es'.length ≤ 1000)
    (h : ∀ h', Fr h₀ L h' m → News h₀ L h' news' → Q () { s with heap := h', toks := s.toks + 2 }) :
    wpAny (model prog w) A (setAttr (.ref x) name v) Q E s := by
  obtain ⟨pre, post, rfl, rfl, a, b⟩ := U.split
  obtain ⟨e1, e2⟩ := Prod.mk.inj e
  exact set_plain (X₀.keeps F.keep) I hs (exc_osa_dict (s := { s with toks := s.toks + 1 }) F N (X₀.keeps F.keep) I hp ht hh hl a b (by rw [putName_dict, e1, e2]) rfl hz fun h' F' N' => h h' F' N')

/-- the first store makes the dict -/
theorem exc_set0 {news' : Addr → List (Addr × Obj)} {name : Str} {v : Value} {Q : Unit → Shared → Prop} (F : Fr h₀ L s.heap m) (X₀ : K.In h₀) (N : News h₀ L s.heap news) (hx : (x, excObj C none ta) ∈ news)
    (hs : findIn K (.ref C) "__setattr__" = some (some (.builtin "object.__setattr__"))) (hp : excOver K C = true) (ht : takerIn K C name = some none) (hh : hasDictIn K C = true)
    (U : ∀ d, Upd x (excObj C none ta) (excObj C (some d) ta) news (news' d))
    (h : ∀ d h', Fr h₀ L h' m → News h₀ L h' ((d, dictOf [⟨PyData.keyHash w.params name, .str name (s.toks + 1), v⟩] 1) :: news' d) → (∀ p ∈ news, p.1 < d) → Q () { s with heap := h', toks := s.toks + 2 }) :
    wpAny (model prog w) A (setAttr (.ref x) name v) Q E s := by
  have I := InstAt.of_exc0 N hx
  have X := X₀.keeps F.keep
  refine set_plain X I hs (exc_osa_open (s := { s with toks := s.toks + 1 }) X I hp ht fun b => ?_)
  obtain ⟨pre, post, e1, e2, a, b⟩ := (U s.heap.objs.size).split
  obtain ⟨cd, hc, hd'⟩ := any_some hh
  have hxx := I.at_
  refine wpAny_bind (wpAny_pure (wpAny_bind (wpAny_bind (wpAny_loadPart hxx (wpAny_bind (looks_clsIn X hc _ _ _ _ (fun _ _ e => e) ?_))))))
  rw [hd']
  have F1 := F.push emptyDict
  have N1 : News h₀ L (s.heap.push emptyDict) ((s.heap.objs.size, emptyDict) :: news) := N.push F emptyDict
  rw [e1] at N1
  have hlt : ∀ p ∈ news, p.1 < s.heap.objs.size := fun p hp => Heap.lt_size (N p hp).1
  have hxn : s.heap.objs.size ≠ x := fun z => absurd (hlt _ hx) (by rw [← z]; exact Nat.lt_irrefl _)
  obtain ⟨U1, U2⟩ := news_upd (pre := (s.heap.objs.size, emptyDict) :: pre) (f := fun o => { o with dict := some s.heap.objs.size }) F1 N1 (fun p hp => by rcases List.mem_cons.mp hp with rfl | hp; exact hxn; exact a p hp) b (o' := excObj C (some s.heap.objs.size) ta) rfl rfl
  refine wpAny_bind (wpAny_alloc (wpAny_bind (wpAny_update (Heap.get?_push_of_some _ hxx) ?_)))
  refine wpAny_pure (a := some s.heap.objs.size) (wpAny_bind (wpAny_pure (wpAny_bind ?_)))
  have D := (U2 (s.heap.objs.size, emptyDict) (by simp)).1
  have he : Obj.putName name (PyData.keyHash w.params name) (.str name (s.toks + 1)) v (dictOf [] 0) = dictOf [⟨PyData.keyHash w.params name, .str name (s.toks + 1), v⟩] 1 := by rw [putName_dict]; rfl
  obtain ⟨V1, V2⟩ := news_upd (pre := []) (d := s.heap.objs.size) (o := dictOf [] 0) (f := Obj.putName name (PyData.keyHash w.params name) (.str name (s.toks + 1)) v) U1 U2 (fun _ hp => nomatch hp)
    (fun p hp => by
      rcases List.mem_append.mp hp with hp | hp
      · exact Nat.ne_of_lt (hlt p (by rw [e1]; exact List.mem_append.mpr (.inl hp)))
      · rcases List.mem_cons.mp hp with rfl | hp
        · exact Ne.symm hxn
        · exact Nat.ne_of_lt (hlt p (by rw [e1]; exact List.mem_append.mpr (.inr (.tail _ hp))))) he rfl
  have D' := (V2 (s.heap.objs.size, dictOf [⟨PyData.keyHash w.params name, .str name (s.toks + 1), v⟩] 1) (.head _)).1
  unfold nsSet
  refine wpAny_bind (wpAny_bind (wpAny_askSetting (wpAny_pure (wpAny_bind (wpAny_mkText (wpAny_bind (wpAny_loadPart D ?_)))))))
  dsimp only
  have c : (!(#[] : Array DictEntry).any (·.key.isStr name) && (#[] : Array DictEntry).any (·.refKey)) = false := by simp
  rw [aRefKeyMayBeTheName_at, c]
  refine wpAny_updatePart D ?_
  refine wpAny_bind (wpAny_lookBehind D' (pastItsLine_dict (by rw [List.size_toArray, sizeLine_eq]; simp)) ?_)
  refine wpAny_pure (h s.heap.objs.size _ V1 ?_ hlt)
  rw [e2]
  exact V2
end
end Mine
end
section
open PySem PySem.W PySem.Calls PyProof.Rows PySem.Builtin PySem.Builtin.ObjectAttr PySem.Builtin.Getset_descriptor
set_option Elab.async false
set_option maxRecDepth 100000
set_option maxHeartbeats 4000000
namespace Mine
theorem entry_gss : entryFor table "getset_descriptor.__set__" = some Builtin.«getset_descriptor.__set__» := entryFor_of_tree (by kernel_rfl)
theorem entry_ba_set : entryFor table "BaseException.args#set" = some Builtin.«BaseException.args#set» := entryFor_of_tree (by kernel_rfl)
theorem args_gss (a b c : Value) : argsOk "getset_descriptor.__set__" ⟨[a, b, c], []⟩ := by unfold argsOk; kernel_rfl
theorem owner_bargs : descrOwnerAndName "BaseException.args" = ("BaseException", "args") := by unfold descrOwnerAndName; rw [show "BaseException.args".cutAt '.' = ["BaseException", "args"] from by first | rfl | decide +kernel]; decide +kernel
section
variable {prog : Program} {w : World} {A : Around} {E : Value → Shared → Prop} {K : Frag} {C x dx ta tv : Addr} {s : Shared} {h₀ : Heap} {L : Addr} {m : Str → Option Value} {news news' : List (Addr × Obj)} {R : Result → Shared → Prop} {d : Option Addr} {news'' : Addr → List (Addr × Obj)}

theorem exc_put {Q : Unit → Shared → Prop} (F : Fr h₀ L s.heap m) (N : News h₀ L s.heap news) (U : Upd x (excObj C d ta) (excObj C d tv) news news')
    (h : ∀ h', Fr h₀ L h' m → News h₀ L h' news' → Q () { s with heap := h' }) : wpAny (model prog w) A (Builtin.BaseException.bexcPut (.ref x) 0 (.ref tv)) Q E s := by
  obtain ⟨pre, post, rfl, rfl, a, b⟩ := U.split
  obtain ⟨U1, U2⟩ := news_upd (f := Obj.mapFields (·.setIfInBounds 0 (.ref tv))) F N a b (o' := excObj C d tv) rfl rfl
  have hx : s.heap.get? x = some (excObj C d ta) := (N (x, excObj C d ta) (by simp)).1
  unfold Builtin.BaseException.bexcPut
  refine wpAny_bind (wpAny_field hx rfl (x := .ref ta) rfl (wpAny_bind (wpAny_setField hx rfl (show 0 < 6 by decide) ?_)))
  exact wpAny_letGo (h _ U1 U2)

theorem exc_set_args {its : Array Value} {od : Option Obj} {Q : Unit → Shared → Prop} (F : Fr h₀ L s.heap m) (X₀ : K.In h₀) (N : News h₀ L s.heap news) (I : InstAt s.heap x (excObj C d ta) C od) (ht : s.heap.IsTuple tv its)
    (hs : findIn K (.ref C) "__setattr__" = some (some (.builtin "object.__setattr__"))) (hp : excOver K C = true) (hk : takerIn K C "args" = some (some (.builtin "BaseException.args"))) (hB : subIn K (.ref C) (.type "BaseException") = some true)
    (U : Upd x (excObj C d ta) (excObj C d tv) news news')
    (h : ∀ h', Fr h₀ L h' m → News h₀ L h' news' → Q () { s with heap := h', toks := s.toks + 1 }) : wpAny (model prog w) A (setAttr (.ref x) "args" (.ref tv)) Q E s := by
  have X := X₀.keeps F.keep
  refine set_plain X I hs (exc_osa_open (s := { s with toks := s.toks + 1 }) X I hp hk fun b => ?_)
  have S := PySem.F.slot_gs_set
  have hty : typeOf (.builtin "BaseException.args") = pure (.type "getset_descriptor") := PySem.F.typeOf_bexc_args
  refine wpAny_bind (wpAny_rule (wpAny_bind (wpAny_holding (wpAny_bind (wpAny_bind ((Looks.of_pure hty) _ _ _ _ (fun _ _ e => e) ((Looks.of_pure S.lookup) _ _ _ _ (fun _ _ e => e) (wpAny_holding ?_))))))))
  rw [S.bind]
  refine wpAny_bind (wpAny_pure (wpAny_bind (wpAny_call ?_)))
  have hT : ({ s with toks := s.toks + 1 } : Shared).TypeIs (.builtin "BaseException.args") "getset_descriptor" := PySem.F.typeOf_bexc_args
  refine codeAny_call_builtin S.plain entry_gss (S.check _ _ _ _ _ _ _ _ hT (args_gss _ _ _) ?_)
  show wpAny _ _ (descrStoreThrough "getset" (.builtin "BaseException.args") (.ref x) (some (.ref tv))) _ _ _
  unfold descrStoreThrough descrCheckInstance descrNameAndClass isInstance
  simp only [owner_bargs]
  refine wpAny_bind (wpAny_bind (wpAny_pure (wpAny_bind (wpAny_bind (I.type _ _ _ _ (fun _ _ e => e) (looks_subIn X hB _ _ _ _ (fun _ _ e => e) ?_))))))
  refine wpAny_pure (wpAny_bind (wpAny_pure ?_))
  refine wpAny_pure (And.intro (Code.quiet_builtin _ (by decide +kernel)) (codeAny_builtin entry_ba_set ?_))
  unfold Builtin.«BaseException.args#set»
  refine wpAny_bind (call_tuple_same (s := { s with toks := s.toks + 1 }) ht (wpAny_bind (exc_put (s := { s with toks := s.toks + 1 }) F N U fun h' F' N' => ?_)))
  exact wpAny_pure (wpAny_pure (wpAny_pure (h h' F' N')))

theorem exc_init_call {v : Value} {od : Option Obj} {Q : Value → Shared → Prop} (F : Fr h₀ L s.heap m) (X₀ : K.In h₀) (N : News h₀ L s.heap news) (I : InstAt s.heap x (excObj C d ta) C od)
    (hE : subIn K (.ref C) (.type "Exception") = some true) 
    (U : ∀ t, Upd x (excObj C d ta) (excObj C d t) news (news'' t))
    (h : ∀ t h', Fr h₀ L h' m → News h₀ L h' ((t, tupObj [v]) :: news'' t) → (∀ p ∈ news, p.1 < t) → Q .none { s with heap := h' }) : wpAny (model prog w) A (call (.builtin "Exception.__init__") [.ref x, v]) Q E s := by
  have X := X₀.keeps F.keep
  have FE := PySem.F.excBase_Exception
  obtain ⟨hh, g, dr, t, os⟩ := s
  refine wpAny_call (codeAny_call_builtin FE.init.plain FE.initEntry ?_)
  have hshort := FE.noStar
  have t1 := I.type (M := model prog w)
  have s1 := looks_subIn (M := model prog w) X hE
  obtain ⟨cd, hcd⟩ : ∃ cd, clsIn K C = some cd := by
    unfold subIn mroIn at hE
    cases q : clsIn K C with
    | none => simp only [q] at hE; cases hE
    | some cd => exact ⟨cd, rfl⟩
  have c1 := looks_clsIn (M := model prog w) X hcd
  simp only [checkBuiltinCall, FE.initKind, FE.initSplit, FE.initRow]
  unfold isInstance
  dsimp only at t1 s1 c1
  repeat lk
  have F1 := F.push (tupObj [v])
  have N1 : News h₀ L (hh.push (tupObj [v])) ((hh.objs.size, tupObj [v]) :: news) := N.push F (tupObj [v])
  have hlt : ∀ p ∈ news, p.1 < hh.objs.size := fun p hp => Heap.lt_size (N p hp).1
  obtain ⟨pre, post, e1, e2, a, b⟩ := (U hh.objs.size).split
  have hx : (hh.push (tupObj [v])).get? x = some (excObj C d ta) := Heap.get?_push_of_some _ I.at_
  have hxn : hh.objs.size ≠ x := fun z => absurd (Heap.lt_size I.at_) (by rw [← z]; exact Nat.lt_irrefl _)
  rw [e1] at N1
  obtain ⟨U1, U2⟩ := news_upd (pre := (hh.objs.size, tupObj [v]) :: pre) (f := Obj.mapFields (·.setIfInBounds 0 (.ref hh.objs.size))) F1 N1 (fun p hp => by rcases List.mem_cons.mp hp with rfl | hp; exact hxn; exact a p hp) b (o' := excObj C d hh.objs.size) rfl rfl
  refine nd_load hx (wpAny_pure (wpAny_pure (wpAny_pure (a := Value.ref ta) (wpAny_bind (wpAny_setField hx rfl (show 0 < 6 by decide) (wpAny_letGo (wpAny_pure ?_)))))))
  refine h hh.objs.size _ U1 ?_ hlt
  rw [e2]
  exact U2
end
end Mine
end
section
open PySem PySem.W PySem.Calls PyProof.Rows PySem.Builtin PySem.Builtin.ObjectAttr PySem.Builtin.Getset_descriptor
set_option Elab.async false
set_option maxRecDepth 100000
set_option maxHeartbeats 4000000
namespace Mine
theorem bga_kind : builtinKind "BaseException.__getattribute__" = some .slot := by decide +kernel
theorem bga_split : splitId "BaseException.__getattribute__" = some ("BaseException", "__getattribute__") := by decide +kernel
theorem bga_plain : plainId "BaseException.__getattribute__" = true := by decide +kernel
theorem bga_bind (self : Value) : bindSpecial (.builtin "BaseException.__getattribute__") self = pure (.builtin "BaseException.__getattribute__", [self]) := PySem.F.excAttr_ValueError.ga.bind self
def excGet (K : Frag) (C : Addr) : Bool := findIn K (.ref C) "__getattribute__" == some (some (.builtin "BaseException.__getattribute__")) && findIn K (.ref C) "__getattr__" == some none && subIn K (.ref C) (.type "BaseException") == some true
section
variable {prog : Program} {w : World} {A : Around} {E : Value → Shared → Prop} {s : Shared} {K : Frag} {x C ta : Addr} {ox : Obj} {od : Option Obj} {name : Str} {expr : Bool} {Q : Value → Shared → Prop}
theorem exc_get_open {r : Found} (X : K.In s.heap) (I : InstAt s.heap x ox C od) (hg : excGet K C = true) (hf : findObj K C od name = some r)
    (h : codeAny (model prog w) A (.call (.builtin "BaseException.__getattribute__") ⟨[.ref x, .str name s.toks], []⟩) (fun r s' => match r with | .ok (.ret v) => wpAny (model prog w) A (handedOut v) Q E s' | _ => False) { s with toks := s.toks + 1 }) :
    wpAny (model prog w) A (getAttr (.ref x) name expr) Q E s := by
  simp only [excGet, Bool.and_eq_true, beq_iff_eq] at hg
  obtain ⟨⟨h1, h2⟩, h3⟩ := hg
  obtain ⟨hh, g, d, t, os⟩ := s
  have L0 := I.type (M := model prog w)
  have L1 := looks_findIn (M := model prog w) X h1
  have L2 := looks_findIn (M := model prog w) X h2
  unfold getAttr getAttrBy
  refine wpAny_bind (wpAny_mkText (wpAny_holding (wpAny_bind (L0.at (wpAny_bind (L1.at ?_))))))
  dsimp only
  rw [show (onTheHeap (Value.ref C) && Value.builtin "BaseException.__getattribute__" == Value.builtin "object.__getattribute__") = false from by rw [show (Value.builtin "BaseException.__getattribute__" == Value.builtin "object.__getattribute__") = false from by decide +kernel, Bool.and_false], if_neg (by decide)]
  unfold getAttrByItsOwn
  refine wpAny_bind (L2.at (wpAny_bind (wpAny_attempt (wpAny_holding ?_))))
  unfold callGetattribute
  rw [show (expr && onTheHeap (Value.builtin "BaseException.__getattribute__")) = false from Bool.and_false _, if_neg (by decide)]
  unfold boundAndCalled
  rw [bga_bind]
  refine wpAny_bind (wpAny_pure (wpAny_call (codeAny_mono h fun r s' z => ?_)))
  rcases r with e | (v | _ | _ | _) <;> first | exact z | exact z.elim

theorem exc_get {v : Value} (X : K.In s.heap) (I : InstAt s.heap x ox C od) (hg : excGet K C = true) (hf : findObj K C od name = some (.value v)) (hv : handedIn v = true)
    (h : Q v { s with toks := s.toks + 1 }) : wpAny (model prog w) A (getAttr (.ref x) name expr) Q E s := by
  refine exc_get_open X I hg hf ?_
  simp only [excGet, Bool.and_eq_true, beq_iff_eq] at hg
  obtain ⟨⟨h1, h2⟩, h3⟩ := hg
  obtain ⟨hh, g, d, t, os⟩ := s
  have L0 := I.type (M := model prog w)
  have L3 := looks_subIn (M := model prog w) X h3
  have L1 := looks_find (M := model prog w) X I hf
  refine codeAny_call_builtin bga_plain PySem.F.entry_bexc_ga (@check_slot (model prog w) _ _ ⟨hh, g, d, t + 1, os⟩ "BaseException.__getattribute__" "BaseException" "__getattribute__" (.ref x) [.str name t] [] _ bga_kind bga_split (L0.andThen L3) (PySem.F.args_bexc_ga _ _) ?_)
  unfold Builtin.«object.__getattribute__»
  refine wpAny_bind (wpAny_pure (wpAny_bind (wpAny_pure (wpAny_bind (L0.at (wpAny_bind (L1.at ?_)))))))
  refine wpAny_pure ?_
  show wpAny _ _ (handedOut v) _ _ _
  rw [handedOut_of hv]; exact wpAny_pure h

theorem exc_get_args {d : Option Addr} (X : K.In s.heap) (I : InstAt s.heap x (excObj C d ta) C od) (hg : excGet K C = true) (hf : findObj K C od "args" = some (.bind (.builtin "getset_descriptor.__get__") (.builtin "BaseException.args")))
    (h : Q (.ref ta) { s with toks := s.toks + 1 }) : wpAny (model prog w) A (getAttr (.ref x) "args" expr) Q E s := by
  refine exc_get_open X I hg hf ?_
  simp only [excGet, Bool.and_eq_true, beq_iff_eq] at hg
  obtain ⟨⟨h1, h2⟩, h3⟩ := hg
  obtain ⟨hh, g, dr, t, os⟩ := s
  have L0 := I.type (M := model prog w)
  have L3 := looks_subIn (M := model prog w) X h3
  have L1 := looks_find (M := model prog w) X I hf
  have hx := I.at_
  refine codeAny_call_builtin bga_plain PySem.F.entry_bexc_ga (@check_slot (model prog w) _ _ ⟨hh, g, dr, t + 1, os⟩ "BaseException.__getattribute__" "BaseException" "__getattribute__" (.ref x) [.str "args" t] [] _ bga_kind bga_split (L0.andThen L3) (PySem.F.args_bexc_ga _ _) ?_)
  unfold Builtin.«object.__getattribute__»
  refine wpAny_bind (wpAny_pure (wpAny_bind (wpAny_pure (wpAny_bind (L0.at (wpAny_bind (L1.at ?_)))))))
  show wpAny _ _ (holding [.builtin "BaseException.args"] (call (.builtin "getset_descriptor.__get__") [.builtin "BaseException.args", .ref x, .ref C]) >>= ret) _ _ _
  refine wpAny_bind (wpAny_holding (wpAny_call ?_))
  have hT5 : (⟨hh, g, dr, t + 1, os⟩ : Shared).TypeIs (.builtin "BaseException.args") "getset_descriptor" := PySem.F.typeOf_bexc_args
  refine codeAny_call_builtin PySem.F.slot_gs_get.plain PySem.F.entry_gs_get (PySem.F.slot_gs_get.check _ _ _ _ _ _ _ _ hT5 (PySem.F.args_gs_get _ _ _) ?_)
  have L4 : Looks (model prog w) hh (isSubtype (.ref C) (.type (".".intercalate ("BaseException.args".cutAt '.').dropLast))) true := by rw [PySem.F.owner_bexc_args]; exact L3
  dsimp only at L0
  unfold Builtin.«getset_descriptor.__get__» descrGet descrGetArgs
  dsimp only
  repeat lk
  refine ⟨Code.quiet_builtin _ (by decide +kernel), codeAny_builtin PySem.F.entry_bexc_args ?_⟩
  unfold Builtin.«BaseException.args»
  refine wpAny_bind (wpAny_field hx rfl (x := .ref ta) rfl ?_)
  exact wpAny_pure (wpAny_pure (wpAny_pure h))
end
end Mine
end
section
open PySem PySem.W PySem.Calls PyProof.Rows
set_option Elab.async false
set_option maxRecDepth 100000
set_option maxHeartbeats 4000000
namespace Mine
def AD (d u : Nat) : Around := { handled := none, depth := d, frames := none, guards := some [], units := u }
theorem weaken {α : Type} {M : Model} {A : Around} {d u : Nat} {t : Sem α} {Q : α → Shared → Prop} {E : Value → Shared → Prop} {s : Shared} (h1 : A.handled = none) (hg : A.guards = some []) (h2 : A.depth ≤ d) (h3 : A.units ≤ u) (h : wpAny M (AD d u) t Q E s) : wpAny M A t Q E s :=
  fun Γ p hΓ => h Γ p ⟨hΓ.1.trans h1, Nat.le_trans hΓ.2.1 h2, (by intro _ e; cases e), (by intro g e; exact hΓ.2.2.2.1 g (hg.trans e)), Nat.le_trans hΓ.2.2.2.2 h3⟩
abbrev Grow (h h' : Heap) : Prop := ∀ b o, h.get? b = some o → h'.get? b = some o
section
variable {prog : Program} {w : World} {A : Around} {K : Frag} {s : Shared} {h₀ : Heap} {L : Addr} {m : Str → Option Value} {news : List (Addr × Obj)} {R : Result → Shared → Prop}
  {name qual : Str} {params : Arguments} {body : List Stmt} {scope : Scope} {dV kV doc pm cdv ct oc : Value} {an od : Option Addr} {osl : Array (Option Value)} {f : Addr} {args : Args} {binds : List (Str × Value)}
/-- enter a def: what stands in h₀ is kept, the objects of the ledger may change -/
theorem enter_new (G : Grow h₀ s.heap) (hz : h₀.objs.size ≤ s.heap.objs.size) (X₀ : K.In h₀) (hlim : h₀.NoLimit) (N : ∀ p ∈ news, s.heap.get? p.1 = some p.2 ∧ h₀.get? p.1 = none)
    (ho : K.lookup f = some ⟨oc, od, .func (fnOf name qual params body scope dV kV doc pm an cdv ct), osl⟩) (hcd : codeIn K cdv qual = true) (hroom : A.depth < recursionLimit)
    (hbind : BindsTo s (fnOf name qual params body scope dV kV doc pm an cdv ct) args binds) (hloc : ∀ y ∈ binds, scope.names.lookup y.1 = some .local)
    (hco : scope.isCoroutine = false) (hgen : scope.isGenerator = false) (hk : scope.kind = .function) (hcell : ∀ x ∈ scope.names, x.2 ≠ .cell)
    (h : ∀ L' h₁ tk, Fr h₀ L' h₁ (fun y => binds.reverse.lookup y) → News h₀ L' h₁ news → (∀ p ∈ news, p.1 < L') → 
      wpAny (model prog w) (A.deeper (envOf qual scope L' f cdv)) (execs body (envOf qual scope L' f cdv)) (fun fl s' => R (.ok (.ret (match fl with | .ret v => v | _ => .none))) s') (fun _ _ => False)
        { s with heap := h₁, toks := tk }) : codeAny (model prog w) A (.call (.ref f) args) R s := by
  have X := X₀.keeps G
  refine codeAny_call_def (fd := fnOf name qual params body scope dV kV doc pm an cdv ct) (body := body) (binds := binds) hroom (X _ _ ho) rfl (hlim.keeps G) (codeRec_of X hcd) rfl hbind hcell hloc (fun h₁ hns hk₁ => ?_) hco hgen hk
  refine wpAny_mono (h s.heap.objs.size h₁ _ ⟨hns, fun b o e => hk₁ b o (G b o e), hz⟩ (fun p hp => ⟨hk₁ _ _ (N p hp).1, Nat.ne_of_lt (Heap.lt_size (N p hp).1), (N p hp).2⟩) fun p hp => Heap.lt_size (N p hp).1) (fun _ _ z => z) fun _ _ z => z.elim

/-- the way back into a frame -/
def BackIn (h₀ : Heap) (L : Addr) (m : Str → Option Value) (oL : Obj) (R : Result → Shared → Prop) (v : Value) (s' : Shared) : Prop := (∀ h', h'.get? L = some oL → Grow h₀ h' → Fr h₀ L h' m) → R (.ok (.ret v)) s'
def AllNe (d : Nat) : List (Addr × Obj) → Prop
  | [] => True
  | p :: r => @Ne Nat p.1 d ∧ AllNe d r
theorem allNe_of {d : Addr} : ∀ {l : List (Addr × Obj)}, (∀ p ∈ l, p.1 ≠ d) → AllNe d l
  | [], _ => trivial
  | p :: _, h => ⟨h p (.head _), allNe_of fun q hq => h q (.tail _ hq)⟩
inductive Drop (L : Addr) (oL : Obj) : List (Addr × Obj) → List (Addr × Obj) → Prop
  | head {r} : (∀ p ∈ r, p.1 ≠ L) → Drop L oL ((L, oL) :: r) r
  | tail {p r r'} : p.1 ≠ L → Drop L oL r r' → Drop L oL (p :: r) (p :: r')
theorem Drop.mem {L : Addr} {oL : Obj} : ∀ {l l' : List (Addr × Obj)}, Drop L oL l l' → (L, oL) ∈ l
  | _, _, .head _ => .head _
  | _, _, .tail _ r => .tail _ r.mem
theorem Drop.sub {L : Addr} {oL : Obj} : ∀ {l l' : List (Addr × Obj)}, Drop L oL l l' → ∀ p ∈ l', p ∈ l ∧ p.1 ≠ L
  | _, _, .head h, p, hp => ⟨.tail _ hp, h p hp⟩
  | _, _, .tail h r, p, hp => by
    rcases List.mem_cons.mp hp with rfl | hp
    · exact ⟨.head _, h⟩
    · exact ⟨.tail _ (r.sub p hp).1, (r.sub p hp).2⟩
theorem back_ {oL : Obj} {L' : Addr} {m' : Str → Option Value} {news' news'' : List (Addr × Obj)} {v : Value} {s' : Shared} (F' : Fr h₀ L' s'.heap m') (N' : News h₀ L' s'.heap news') (D : Drop L oL news' news'')
    (h : Fr h₀ L s'.heap m → News h₀ L s'.heap news'' → R (.ok (.ret v)) s') : BackIn h₀ L m oL R v s' := fun hb =>
  h (hb _ (N' _ D.mem).1 F'.keep) fun p hp => ⟨(N' p (D.sub p hp).1).1, (D.sub p hp).2, (N' p (D.sub p hp).1).2.2⟩

/-- enter a def from within a frame: the frame's own object stands in the ledger -/
theorem enter_in (F : Fr h₀ L s.heap m) (X₀ : K.In h₀) (N : News h₀ L s.heap news) (hlim : h₀.NoLimit)
    (ho : K.lookup f = some ⟨oc, od, .func (fnOf name qual params body scope dV kV doc pm an cdv ct), osl⟩) (hcd : codeIn K cdv qual = true) (hroom : A.depth < recursionLimit)
    (hbind : BindsTo s (fnOf name qual params body scope dV kV doc pm an cdv ct) args binds) (hloc : ∀ y ∈ binds, scope.names.lookup y.1 = some .local)
    (hco : scope.isCoroutine = false) (hgen : scope.isGenerator = false) (hk : scope.kind = .function) (hcell : ∀ x ∈ scope.names, x.2 ≠ .cell)
    (h : ∀ oL L' h₁ tk, Fr h₀ L' h₁ (fun y => binds.reverse.lookup y) → News h₀ L' h₁ ((L, oL) :: news) → (∀ p ∈ (L, oL) :: news, p.1 < L') → (∀ p ∈ news, p.1 ≠ L) →
      wpAny (model prog w) (A.deeper (envOf qual scope L' f cdv)) (execs body (envOf qual scope L' f cdv)) (fun fl s' => BackIn h₀ L m oL R (match fl with | .ret v => v | _ => .none) s') (fun _ _ => False)
        { s with heap := h₁, toks := tk }) : codeAny (model prog w) A (.call (.ref f) args) R s := by
  obtain ⟨oL, es, ep, hL, r⟩ := F.ns
  have hn : h₀.get? L = none := by
    cases q : h₀.get? L with
    | none => rfl
    | some o => exact absurd (Heap.lt_size q) (Nat.not_lt.mpr F.above)
  refine enter_new (news := (L, oL) :: news) F.keep (Nat.le_of_lt (Nat.lt_of_le_of_lt F.above (Heap.lt_size hL))) X₀ hlim (fun p hp => ?_) ho hcd hroom hbind hloc hco hgen hk hcell fun L' h₁ tk F' N' l => wpAny_mono (h oL L' h₁ tk F' N' l fun p hp => (N p hp).2.1) (fun _ _ z => z fun h' e g => ⟨⟨oL, es, ep, e, r⟩, g, F.above⟩) fun _ _ z => z
  rcases List.mem_cons.mp hp with rfl | hp
  · exact ⟨hL, hn⟩
  · exact ⟨(N p hp).1, (N p hp).2.2⟩
end
end Mine
end
section
open PySem PySem.W PySem.Calls PyProof.Rows
set_option Elab.async false
set_option maxRecDepth 100000
set_option maxHeartbeats 4000000
namespace Mine
/-- what is written of v, in any heap that holds what hb holds -/
structure Reprs (prog : Program) (w : World) (hb : Heap) (v : Value) (t : Str) : Prop where
  call : ∀ (A : Around) (s : Shared) (Q E : Value → Shared → Prop), A.handled = none → A.guards = some [] → A.depth ≤ 800 → A.units ≤ 4000 → Grow hb s.heap →
    (∀ h' u tk, Grow s.heap h' → Q (.str t u) { s with heap := h', toks := tk }) → wpAny (model prog w) A (PySem.call (.builtin "repr") [v]) Q E s
  obj : ∀ (A : Around) (s : Shared) (Q E : Value → Shared → Prop), A.handled = none → A.guards = some [] → A.depth ≤ 800 → A.units ≤ 4000 → Grow hb s.heap →
    (∀ h' u tk, Grow s.heap h' → Q (.str t u) { s with heap := h', toks := tk }) → wpAny (model prog w) A (pyReprObj v) Q E s
  short : t.length ≤ 1000000
theorem Reprs.mono {prog : Program} {w : World} {hb h' : Heap} {v : Value} {t : Str} (r : Reprs prog w hb v t) (g : Grow hb h') : Reprs prog w h' v t :=
  ⟨fun A s Q E a b c d e f => r.call A s Q E a b c d (fun x o q => e x o (g x o q)) f, fun A s Q E a b c d e f => r.obj A s Q E a b c d (fun x o q => e x o (g x o q)) f, r.short⟩
def Fields (od : Obj) (fs : List (Str × Value)) : Prop := ∀ p ∈ fs, lookIn p.1 od = some (some p.2)
/-- an error, newly made -/
structure ErrNew (h h' : Heap) (C e d ta : Addr) (od : Obj) (msg : Str) (u : Tok) (fs : List (Str × Value)) (args : List Value) : Prop where
  he : h'.get? e = some (excObj C (some d) ta)
  hd : h'.get? d = some od
  ht : h'.get? ta = some (tupObj args)
  ne : h.get? e = none
  nd : h.get? d = none
  nt : h.get? ta = none
  hm : lookIn "message" od = some (some (.str msg u))
  hf : Fields od fs
/-- what a line number is told as -/
structure Lines (prog : Program) (w : World) (n : Int) (t : Str) : Prop where
  call : ∀ (A : Around) (s : Shared) (Q E : Value → Shared → Prop) (tk nt : Tok), A.handled = none → A.guards = some [] → A.depth ≤ 800 → A.units ≤ 4000 →
    (∀ h' u k, Grow s.heap h' → Q (.str t u) { s with heap := h', toks := k }) → wpAny (model prog w) A (PySem.call (.builtin "str.format") [.str (Str.ofString " [line {0:2d}]") tk, .int n nt]) Q E s
  short : t.length ≤ 1000
section
variable {prog : Program} {w : World} {A : Around} {E : Value → Shared → Prop} {s : Shared} {h₀ : Heap} {L : Addr} {m : Str → Option Value} {news : List (Addr × Obj)} {v : Value} {t : Str} {Q : Value → Shared → Prop}
theorem fr_grow {h h' : Heap} (F : Fr h₀ L h m) (g : Grow h h') : Fr h₀ L h' m := ⟨F.ns.keeps g, fun b o e => g b o (F.keep b o e), F.above⟩
theorem news_grow {h h' : Heap} (N : News h₀ L h news) (g : Grow h h') : News h₀ L h' news := fun p hp => ⟨g _ _ (N p hp).1, (N p hp).2⟩
theorem repr_use (r : Reprs prog w h₀ v t) (F : Fr h₀ L s.heap m) (N : News h₀ L s.heap news) (h1 : A.handled = none) (h2 : A.guards = some []) (h3 : A.depth ≤ 800) (h4 : A.units ≤ 4000)
    (h : ∀ h' u tk, Fr h₀ L h' m → News h₀ L h' news → Q (.str t u) { s with heap := h', toks := tk }) : wpAny (model prog w) A (call (.builtin "repr") [v]) Q E s :=
  r.call A s Q E h1 h2 h3 h4 F.keep fun h' u tk g => h h' u tk (fr_grow F g) (news_grow N g)
theorem isTup_of {h : Heap} {a : Addr} {vs : List Value} (N : News h₀ L h news) (hm : (a, ({ cls := .type "tuple", data := .seq vs.toArray } : Obj)) ∈ news) : h.IsTuple a vs.toArray := ⟨_, (N _ hm).1, rfl, _, rfl⟩
theorem meta_Exception : typeOf (.type "Exception") = pure (.type "type") := by first | rfl | kernel_rfl
theorem line_use {n : Int} {tk nt : Tok} (r : Lines prog w n t) (F : Fr h₀ L s.heap m) (N : News h₀ L s.heap news) (h1 : A.handled = none) (h2 : A.guards = some []) (h3 : A.depth ≤ 800) (h4 : A.units ≤ 4000)
    (h : ∀ h' u tk, Fr h₀ L h' m → News h₀ L h' news → Q (.str t u) { s with heap := h', toks := tk }) : wpAny (model prog w) A (call (.builtin "str.format") [.str (Str.ofString " [line {0:2d}]") tk, .int n nt]) Q E s :=
  r.call A s Q E tk nt h1 h2 h3 h4 fun h' u tk g => h h' u tk (fr_grow F g) (news_grow N g)
theorem isNot_none (hv : v ≠ .none) (q : Q (.bool true) s) : wpAny (model prog w) A (compareOp .IsNot v .none) Q E s :=
  isnot_none_gen (by rw [show (v == Value.none) = false from beq_eq_false_iff_ne.mpr hv]; exact q)
theorem err_close {h' : Heap} {C e d ta : Addr} {od : Obj} {msg : Str} {u : Tok} {fs : List (Str × Value)} {args : List Value} (N : News h₀ L h' news) (h1 : (e, excObj C (some d) ta) ∈ news) (h2 : (d, od) ∈ news) (h3 : (ta, tupObj args) ∈ news)
    (hm : lookIn "message" od = some (some (.str msg u))) (hf : Fields od fs) : ErrNew h₀ h' C e d ta od msg u fs args := ⟨(N _ h1).1, (N _ h2).1, (N _ h3).1, (N _ h1).2.2, (N _ h2).2.2, (N _ h3).2.2, hm, hf⟩
theorem made_grow (h : Heap) (o o' : Obj) : Grow h ((h.push o).push o') := fun _ _ e => Heap.get?_push_of_some _ (Heap.get?_push_of_some _ e)
theorem made_news (h : Heap) (C : Addr) (vs : List Value) : ∀ p ∈ [(h.objs.size + 1, excObj C none h.objs.size), (h.objs.size, tupObj vs)], ((h.push (tupObj vs)).push (excObj C none h.objs.size)).get? p.1 = some p.2 ∧ h.get? p.1 = none := by
  intro p hp
  rcases List.mem_cons.mp hp with rfl | hp
  · exact ⟨by heap_get, Heap.get?_none_of_le (Nat.le_succ _)⟩
  · rcases List.mem_singleton.mp hp with rfl
    exact ⟨Heap.get?_push_of_some _ (Heap.get?_push_size _ rfl), Heap.get?_none_of_le (Nat.le_refl _)⟩
end
end Mine
end
section
open PySem PySem.W PySem.Calls PyProof.Rows
set_option Elab.async false
set_option maxRecDepth 100000
set_option maxHeartbeats 4000000
namespace Mine
section
variable {prog : Program} {w : World} {A : Around} {E : Value → Shared → Prop} {s : Shared} {h₀ : Heap} {L : Addr} {m : Str → Option Value} {news : List (Addr × Obj)} {v : Value} {t : Str} {Q : Value → Shared → Prop} {K : Frag}
theorem reprs_str {hb : Heap} {x : Str} {t : Tok} (hl : (reprText x).length ≤ 1000000) : Reprs prog w hb (.str x t) (reprText x) where
  call := fun A s Q E _ _ _ _ _ h => P.repr_of_str (h s.heap _ _ fun _ _ e => e) (by rw [sizeLine_eq]; omega)
  obj := fun A s Q E _ _ _ _ _ h => wpAny_pyReprObj_str (h s.heap _ _ fun _ _ e => e) (by rw [sizeLine_eq]; omega)
  short := hl

/-- an error that a contract makes, taken into a frame's ledger -/
theorem err_use {f : Value} {vs : List Value} {kw : List (Str × Value)} {C : Addr} {msg : Str} {fs : List (Str × Value)} {args : List Value}
    (c : ∀ Q E, (∀ h' tk e d ta od u, Grow s.heap h' → ErrNew s.heap h' C e d ta od msg u fs args → Q (.ref e) { s with heap := h', toks := tk }) → wpAny (model prog w) (AD 600 2000) (call f vs kw) Q E s)
    (F : Fr h₀ L s.heap m) (N : News h₀ L s.heap news) (h1 : A.handled = none) (h2 : A.guards = some []) (h3 : A.depth ≤ 600) (h4 : A.units ≤ 2000)
    (h : ∀ h' tk e d ta od u, Fr h₀ L h' m → News h₀ L h' ((e, excObj C (some d) ta) :: (d, od) :: (ta, tupObj args) :: news) → AllNe e news → AllNe d news → AllNe ta news → lookIn "message" od = some (some (.str msg u)) → Fields od fs → Q (.ref e) { s with heap := h', toks := tk }) :
    wpAny (model prog w) A (call f vs kw) Q E s := by
  refine weaken h1 h2 h3 h4 (c Q E fun h' tk e d ta od u g n => ?_)
  have hL : ∀ a, s.heap.get? a = none → a ≠ L := fun a ha z => by
    obtain ⟨o, _, _, ho, _⟩ := F.ns
    rw [z, ho] at ha; cases ha
  have h0 : ∀ a, s.heap.get? a = none → h₀.get? a = none := fun a ha => by
    cases q : h₀.get? a with
    | none => rfl
    | some o => rw [F.keep _ _ q] at ha; cases ha
  have hne : ∀ a, s.heap.get? a = none → AllNe a news := fun a ha => allNe_of fun p hp z => by
    have := (N p hp).1
    rw [z, ha] at this; cases this
  refine h h' tk e d ta od u (fr_grow F g) ?_ (hne _ n.ne) (hne _ n.nd) (hne _ n.nt) n.hm n.hf
  intro p hp
  rcases List.mem_cons.mp hp with rfl | hp
  · exact ⟨n.he, hL _ n.ne, h0 _ n.ne⟩
  rcases List.mem_cons.mp hp with rfl | hp
  · exact ⟨n.hd, hL _ n.nd, h0 _ n.nd⟩
  rcases List.mem_cons.mp hp with rfl | hp
  · exact ⟨n.ht, hL _ n.nt, h0 _ n.nt⟩
  · exact news_grow N g p hp

/-- a field of an error in the ledger -/
theorem err_get {expr : Bool} {C x d ta : Addr} {od : Obj} {name : Str} {attr : Option Value} (F : Fr h₀ L s.heap m) (X₀ : K.In h₀) (N : News h₀ L s.heap news) (h1 : (x, excObj C (some d) ta) ∈ news) (h2 : (d, od) ∈ news) (hg : excGet K C = true)
    (hh : hasDictIn K C = true) (ha : findIn K (.ref C) name = some attr) (hn : noGet K attr = true) (hl : lookIn name od = some (some v)) (hv : handedIn v = true) (h : Q v { s with toks := s.toks + 1 }) :
    wpAny (model prog w) A (getAttr (.ref x) name expr) Q E s :=
  exc_get (X₀.keeps F.keep) (InstAt.of_exc N h1 h2) hg (findObj_own hh ha hn hl) hv h
theorem err_args {expr : Bool} {C x d ta : Addr} {od : Obj} (F : Fr h₀ L s.heap m) (X₀ : K.In h₀) (N : News h₀ L s.heap news) (h1 : (x, excObj C (some d) ta) ∈ news) (h2 : (d, od) ∈ news) (hg : excGet K C = true)
    (hc : (clsIn K C).isSome = true) (ha : findIn K (.ref C) "args" = some (some (.builtin "BaseException.args"))) (hs : specialIn K (.builtin "BaseException.args") "__get__" = some (some (.builtin "getset_descriptor.__get__"))) (ht : takesIn K (.builtin "BaseException.args") = some true)
    (h : Q (.ref ta) { s with toks := s.toks + 1 }) : wpAny (model prog w) A (getAttr (.ref x) "args" expr) Q E s :=
  exc_get_args (X₀.keeps F.keep) (InstAt.of_exc N h1 h2) hg (findObj_data hc ha hs ht) h
end
end Mine
end
section
open PySem PySem.W PySem.Calls PyProof.Rows Builtin Builtin.Str Builtin.Int Builtin.Float
set_option Elab.async false
set_option maxRecDepth 100000
set_option maxHeartbeats 4000000
namespace Mine
theorem ifno {M : Model} {A : Around} {E : Value → Shared → Prop} {s : Shared} {α : Type} {c : Prop} {d : Decidable c} {a b : Sem α} {Q : α → Shared → Prop} (h : ¬ c) (k : wpAny M A b Q E s) : wpAny M A (@ite _ c d a b) Q E s := by rw [if_neg h]; exact k
def numDigits (n : Int) : List Nat := (if n < 0 then [45] else []) ++ (Nat.toDigits 10 n.natAbs).map Char.toNat
/-- a number, two signs wide at least -/
def fig2 (n : Int) : PySem.Str := ⟨(List.replicate (2 - (numDigits n).length) 32 ++ numDigits n).toArray⟩
theorem spec2d : parseFormatSpec (PySem.Str.ofString "2d").cps.toList "int" 62 = .ok { align := 62, width := some 2, type := some 100 } := by rfl
theorem text2d (a : Int) : intSpecText { align := 62, width := some 2, type := some 100 } a = fig2 a := by
  unfold intSpecText intField' fig2 numDigits
  have hne : (Nat.toDigits 10 a.natAbs).map (fun c => (if (100 : Nat) == 88 then c.toUpper else c).toNat) = (Nat.toDigits 10 a.natAbs).map Char.toNat := rfl
  rw [hne]
  have h1 := tDigits_len_ge 10 a.natAbs
  have he : ((Nat.toDigits 10 a.natAbs).map Char.toNat).isEmpty = false := by
    cases h : Nat.toDigits 10 a.natAbs with
    | nil => rw [h] at h1; simp at h1
    | cons _ _ => rfl
  by_cases hn : a < 0
  · simp [hn, he]
  · simp [hn, he]
theorem fmt2d {a : Int} {t : Tok} (hd : a.natAbs.log2 < 1920) (hl : (fig2 a).length ≤ sizeLine) (u : Tok) : Meets («int.__format__» ⟨[.int a t, .str (PySem.Str.ofString "2d") u], []⟩) (fun _ R s => ∀ t' k, R (.ok (.ret (.str (fig2 a) t'))) { s with toks := k }) := by
  apply KPc.meets_of
  intro _ _ _ _ _ _ _
  unfold Builtin.«int.__format__»
  refine wpAny_bind (wpAny_of_eq (a := (_, _)) rfl ?_)
  refine wpAny_bind (wpAny_of_eq (a := _) rfl ?_)
  kxf_if
  refine wpAny_bind (wpAny_typeNameOf (T := "str") (typeIs_str _ _ _) (by decide) fun _ => ?_)
  refine wpAny_bind (wpAny_of_eq (a := some _) rfl ?_)
  kxf_if
  kxf_if
  refine wpAny_bind (wpAny_typeNameOfCut_int ?_)
  rw [spec2d]
  refine wpAny_ite (KPc.ite_yes (by decide +kernel) ?_)
  refine wpAny_bind (wpAny_of_eq (PySem.overDigitLimit_small hd) ?_)
  show wpAny _ _ (retStr _) _ _ _
  refine KXf.ret_text (T := fig2 a) ?e ?l ?h
  case h => assumption
  case e => (
    rw [← text2d a]
    unfold intSpecText
    rw [show (if ({ align := 62, width := some 2, type := some 100 } : FormatSpec).alt = true then _ else []) = ([] : List Nat) from if_neg (by decide)]
    generalize e1 : (Nat.toDigits 10 a.natAbs).map _ = ds
    rw [show (Nat.toDigits 10 a.natAbs).map (fun c => (if (100 : Nat) == 88 then c.toUpper else c).toNat) = ds from e1]
    cases decide (a < 0) <;> cases ds <;> rfl)
  case l => refine Nat.le_trans (Nat.le_of_eq (congrArg PySem.Str.length (a₂ := fig2 a) ?_)) hl; (
    rw [← text2d a]
    unfold intSpecText
    rw [show (if ({ align := 62, width := some 2, type := some 100 } : FormatSpec).alt = true then _ else []) = ([] : List Nat) from if_neg (by decide)]
    generalize e1 : (Nat.toDigits 10 a.natAbs).map _ = ds
    rw [show (Nat.toDigits 10 a.natAbs).map (fun c => (if (100 : Nat) == 88 then c.toUpper else c).toNat) = ds from e1]
    cases decide (a < 0) <;> cases ds <;> rfl)
theorem formatOf_2d {prog : Program} {w : World} {A : Around} {E : Value → Shared → Prop} {s : Shared} {n : Int} {u : Tok} {X : PySem.Str} {Q : Value → Shared → Prop} (hX : X = PySem.Str.ofString "2d") (hd : n.natAbs.log2 < 1920) (hl : (fig2 n).length ≤ sizeLine)
    (h : ∀ t' k, Q (.str (fig2 n) t') { s with toks := k }) : wpAny (model prog w) A (PySem.Builtin.Str.formatOf (.int n u) X) Q E s := by
  subst hX
  unfold PySem.Builtin.Str.formatOf
  refine wpAny_ite (KPc.ite_no Bool.false_ne_true ?_)
  refine wpAny_bind (wpAny_mkStr ?_ (by decide))
  refine wpAny_bind (m := callSpecial? (.int n u) (PySem.Str.ofString "__format__") [.str (PySem.Str.ofString "2d") s.toks]) (wpAny_callSpecial?_slot (name := PySem.Str.ofString "__format__") (typeIs_int _ n u) F.slot_int_format
    (call_meets F.slot_int_format (typeIs_int _ n u) F.entry_int_format (F.args_int_format_2 _ _) (fmt2d hd hl _) fun t' k => ?_))
  refine wpAny_bind (wpAny_of_eq (a := some (fig2 n)) rfl ?_)
  refine wpAny_ite (KPc.ite_no Bool.false_ne_true ?_)
  exact wpAny_pure (h _ _)
theorem field_man {prog : Program} {w : World} {A : Around} {E : Value → Shared → Prop} {s : Shared} {id : String} {a : Array Value} {byName : PySem.Str → Sem Value} {v : Value} {Q : Value × Numbering → Shared → Prop} {X : List Nat} (hX : X = [48]) (ha : a[0]? = some v)
    (h : Q (v, .manual) s) : wpAny (model prog w) A (fieldObject id (some a) byName X .unset) Q E s := by
  subst hX
  unfold fieldObject
  refine wpAny_bind (wpAny_of_eq (a := some 0) rfl ?_)
  refine wpAny_bind (wpAny_of_eq (a := (some 0, .manual)) rfl ?_)
  simp only [ha, pure_bind]
  rw [KPc.range_list]
  exact wpAny_bind (wpAny_pure (wpAny_pure h))
def lineText (n : Int) : PySem.Str := (PySem.Str.ofString " [line " ++ fig2 n) ++ PySem.Str.ofString "]"
theorem line_meets {n : Int} {tk nt : Tok} (hd : n.natAbs.log2 < 1920) (hl : (fig2 n).length ≤ 900) : Meets («str.format» ⟨[.str (PySem.Str.ofString " [line {0:2d}]") tk, .int n nt], []⟩) (fun _ R s => ∀ t' k, R (.ok (.ret (.str (lineText n) t'))) { s with toks := k }) := by
  apply KPc.meets_of
  intro _ _ _ _ _ _ _
  unfold Builtin.«str.format»
  refine wpAny_bind (wpAny_of_eq (a := (_, _, _)) rfl ?_)
  refine wpAny_bind ?_
  unfold Builtin.Str.buildString
  refine wpAny_bind ?_
  rw [KPc.range_list]
  refine KFm.start ?_
  intro _ _
  refine KPc.turn ?_
  kpc_if
  kpc_check
  refine wpAny_bind (field_man rfl rfl ?_)
  refine wpAny_bind (wpAny_holding (wpAny_of_eq (a := _) rfl ?_))
  kpc_if
  refine wpAny_bind (wpAny_pure ?_)
  refine wpAny_bind (wpAny_holding (formatOf_2d (by rfl) hd (by rw [sizeLine_eq]; omega) ?_)); intro _ _
  refine wpAny_bind (wpAny_of_eq (a := some _) rfl ?_)
  refine wpAny_pure ?_
  refine KFm.after_field (K := 900) (by kpc_g) (by kpc_text) (by kpc_obj) hl (by kpc_obj) (by kfm_cat2) (by kfm_rest) ?_
  intro _ _
  refine KPc.turn ?_
  kpc_if
  kpc_check
  kfm_lit
  refine KPc.turn ?_
  kpc_if
  kfm_close
end Mine
end
section
open PySem PySem.W PySem.Calls PyProof.Rows
set_option Elab.async false
set_option maxRecDepth 100000
set_option maxHeartbeats 4000000
namespace Mine
theorem lines_of {prog : Program} {w : World} {n : Int} (hd : n.natAbs.log2 < 1920) (hl : (fig2 n).length ≤ 900) : Lines prog w n (lineText n) where
  call := fun A s Q E tk nt _ _ _ _ h => KFm.call_k rfl (KFm.args_2 _ _) (line_meets hd hl) fun t' k => h s.heap t' k fun _ _ e => e
  short := by
    have h1 : (PySem.Str.ofString " [line ").length = 7 := by decide +kernel
    have h2 : (PySem.Str.ofString "]").length = 1 := by decide +kernel
    simp only [lineText, PySem.Str.length_append]
    omega
end Mine
end
section
open PySem PySem.W PySem.Calls PyProof.Rows
set_option Elab.async false
set_option maxRecDepth 100000
set_option maxHeartbeats 4000000
namespace Mine
theorem sapp (a b c : Str) : a ++ b ++ c = a ++ (b ++ c) := by
  have e : (a ++ b ++ c).cps = (a ++ (b ++ c)).cps := by simp only [PySem.Str.cps_append, Array.append_assoc]
  exact congrArg PySem.Str.mk e
theorem tj0 (l : List Str) : Txt.join (Str.ofString "") l = Str.join (Str.ofString "") l := by
  unfold Txt.join
  rw [StrLaws.glued_eq_join]
theorem tj1 (x : Str) : Txt.join (Str.ofString "") [x] = x := by rw [tj0]; rfl
theorem tjc (x y : Str) (r : List Str) : Txt.join (Str.ofString "") (x :: y :: r) = x ++ Txt.join (Str.ofString "") (y :: r) := by
  rw [tj0, tj0]
  show x ++ Str.ofString "" ++ Str.join (Str.ofString "") (y :: r) = _
  rw [KFm.cat_t]
theorem lit_s : Str.ofString "]: " ++ Str.ofString "section " = Str.ofString "]" ++ Str.ofString ": section " := by decide +kernel
theorem lit_o : Str.ofString "]: " ++ Str.ofString "option " = Str.ofString "]" ++ Str.ofString ": option " := by decide +kernel
theorem tx60a (r : Str) : Txt.join (Str.ofString "") [Str.ofString "Section ", r, Str.ofString " already exists"] = Str.ofString "Section " ++ (r ++ Str.ofString " already exists") := by
  simp only [tjc, tj1]
theorem tx80a (o r : Str) : Txt.join (Str.ofString "") [Str.ofString "Option ", o, Str.ofString " in section ", r, Str.ofString " already exists"] = Str.ofString "Option " ++ (o ++ Str.ofString " in section " ++ (r ++ Str.ofString " already exists")) := by
  simp only [tjc, tj1, sapp]
end Mine
end
section
open PySem PySem.W PySem.Calls PyProof.Rows
set_option Elab.async false
set_option maxRecDepth 100000
set_option maxHeartbeats 1000000
namespace Mine
def Inv05 (pre : List Int) (line : Int) (figures : Str) : Prop := 0 ≤ line ∧ figures.length ≤ pre.length ∧ line < 10 ^ pre.length ∧ (pre ≠ [] → figures = Str.ofString (toString line)) ∧ (pre = [] → line = 0)
theorem inv05_0 : Inv05 [] 0 (Str.ofString "") := ⟨by decide, by decide, by decide, fun h => absurd rfl h, fun _ => rfl⟩
theorem item_fig : ∀ d : Fin 10, Txt.item (Str.ofString "0123456789") (d.val : Int) = ⟨#[48 + d.val]⟩ := by decide +kernel
theorem dig_fig : ∀ d : Fin 10, (Nat.toDigits 10 d.val).map Char.toNat = [48 + d.val] := by decide +kernel
theorem fig_one {d : Nat} (hd : d < 10) : (⟨#[48 + d]⟩ : Str) = Str.ofString (toString (Int.ofNat d)) := by
  rw [text_ofNat, dig_fig ⟨d, hd⟩]
theorem nd_pos {m : Nat} : numDigits (Int.ofNat m) = (Nat.toDigits 10 m).map Char.toNat := by
  unfold numDigits
  rw [if_neg (by simp)]
  rfl
theorem numDigits_len {n : Int} (h : n.natAbs < 10 ^ 41) : (numDigits n).length ≤ 42 := by
  have h1 := digits10_le (k := 41) (by decide) h
  unfold numDigits
  rw [List.length_append, List.length_map]
  split <;> simp <;> omega
theorem fig2_len {n : Int} (h : n.natAbs < 10 ^ 41) : (fig2 n).length ≤ 44 := by
  have h1 := numDigits_len h
  unfold fig2
  simp only [PySem.Str.length, List.size_toArray, List.length_append, List.length_replicate]
  omega
theorem log2_ok {n : Int} (h : n.natAbs < 10 ^ 41) : n.natAbs.log2 < 1920 := by
  by_cases h0 : n.natAbs = 0
  · rw [h0]; decide
  · exact Nat.lt_of_lt_of_le ((Nat.log2_lt h0).mpr (Nat.lt_trans h (by decide : 10 ^ 41 < 2 ^ 200))) (by decide)
theorem zero05 : Str.ofString " 0" = fig2 0 := by decide +kernel
end Mine
end
section
open PySem PySem.W PySem.Calls PyProof.Rows Builtin Builtin.Str
set_option Elab.async false
set_option maxRecDepth 100000
set_option maxHeartbeats 4000000
namespace Mine
/-- how repr writes v, in any heap that holds what hb holds: by the built-in, by a format's conversion, by a percent sign -/
structure Rep (prog : Program) (w : World) (hb : Heap) (v : Value) (t : PySem.Str) : Prop where
  call : ∀ (A : Around) (s : Shared) (Q E : Value → Shared → Prop), A.handled = none → A.guards = some [] → A.depth ≤ 800 → A.units ≤ 4000 → Grow hb s.heap →
    (∀ h' u tk, Grow s.heap h' → Q (.str t u) { s with heap := h', toks := tk }) → wpAny (model prog w) A (PySem.call (.builtin "repr") [v]) Q E s
  obj : ∀ (A : Around) (s : Shared) (Q E : Value → Shared → Prop), A.handled = none → A.guards = some [] → A.depth ≤ 800 → A.units ≤ 4000 → Grow hb s.heap →
    (∀ h' u tk, Grow s.heap h' → Q (.str t u) { s with heap := h', toks := tk }) → wpAny (model prog w) A (pyReprObj v) Q E s
  under : ∀ (base : Nat), base ≤ 2000000 → ∀ (A : Around) (s : Shared) (Q E : Value → Shared → Prop), A.handled = none → A.guards = some [] → A.depth ≤ 800 → A.units ≤ 4000 → Grow hb s.heap →
    (∀ h' u tk, Grow s.heap h' → Q (.str t u) { s with heap := h', toks := tk }) → wpAny (model prog w) A (pyReprObjUnder base v) Q E s
  short : t.length ≤ 1000000
theorem Rep.old {prog : Program} {w : World} {hb : Heap} {v : Value} {t : PySem.Str} (r : Rep prog w hb v t) : Reprs prog w hb v t := ⟨r.call, r.obj, r.short⟩
theorem Grow.refl (h : Heap) : Grow h h := fun _ _ e => e
theorem Grow.trans {h h' h'' : Heap} (a : Grow h h') (b : Grow h' h'') : Grow h h'' := fun x o e => b x o (a x o e)
theorem Rep.mono {prog : Program} {w : World} {hb h' : Heap} {v : Value} {t : PySem.Str} (r : Rep prog w hb v t) (g : Grow hb h') : Rep prog w h' v t :=
  ⟨fun A s Q E a b c d e f => r.call A s Q E a b c d (g.trans e) f, fun A s Q E a b c d e f => r.obj A s Q E a b c d (g.trans e) f, fun n hn A s Q E a b c d e f => r.under n hn A s Q E a b c d (g.trans e) f, r.short⟩
theorem under_leaf {M : Model} {A : Around} {E : Value → Shared → Prop} {s : Shared} {b : Nat} {v : Value} {T id : String} {Q : Value → Shared → Prop} (hT : s.TypeIs v T) (h : SlotG T (PySem.Str.ofString "__repr__") id)
    (htw : reprUnder? (.builtin id) = none) (hu : A.units < cLine)
    (hc : wpAny M A (call (.builtin id) [v]) (fun v s' => (∃ x u, v = .str x u) ∧ Q v s') E s) : wpAny M A (pyReprObjUnder b v) Q E s := by
  unfold pyReprObjUnder pyReprObjBy
  refine wpAny_bind (wpAny_cRoomFor hu ?_)
  refine wpAny_bind (wpAny_specialOf (name := PySem.Str.ofString "__repr__") hT h.lookup ?_)
  refine wpAny_bind (wpAny_callSpecialIfBoundBy?_slotG (name := PySem.Str.ofString "__repr__") hT h ?_)
  simp only [htw]
  refine wpAny_mono hc (fun v s' hv => ?_) fun _ _ x => x
  obtain ⟨⟨x, u, rfl⟩, hq⟩ := hv
  exact wpAny_bind (wpAny_isInstance (T := "str") (b := true) rfl isSubtype_str_str (wpAny_pure hq))
theorem rep_str {prog : Program} {w : World} {hb : Heap} {x : PySem.Str} {t : Tok} (hl : (reprText x).length ≤ 1000000) : Rep prog w hb (.str x t) (reprText x) where
  call := fun A s Q E _ _ _ _ _ h => P.repr_of_str (h s.heap _ _ fun _ _ e => e) (by rw [sizeLine_eq]; omega)
  obj := fun A s Q E _ _ _ _ _ h => wpAny_pyReprObj_str (h s.heap _ _ fun _ _ e => e) (by rw [sizeLine_eq]; omega)
  under := fun n _ A s Q E _ _ _ _ _ h => by
    exact under_leaf (typeIs_str s x t) F.slot_str_repr.toG rfl (Nat.lt_of_le_of_lt (by assumption) (Nat.le_of_ble_eq_true rfl)) (call_gives F.slot_str_repr (typeIs_str s x t) F.entry_str_repr (F.args_str_repr_1 _) (gives_str_repr x t) ⟨by rw [sizeLine_eq]; omega, ⟨_, _, rfl⟩, h s.heap _ _ fun _ _ e => e⟩)
  short := hl
section
variable {prog : Program} {w : World} {A : Around} {E : Value → Shared → Prop} {s : Shared} {h₀ : Heap} {L : Addr} {m : PySem.Str → Option Value} {news : List (Addr × Obj)} {v v2 v3 v4 : Value} {t t2 t3 t4 : PySem.Str}
theorem tup_grow {h h' : Heap} {b : Addr} {its : Array Value} (g : Grow h h') (x : IsTup h b its) : IsTup h' b its := by
  obtain ⟨o, a, c⟩ := x
  exact ⟨o, g _ _ a, c⟩
/-- what a call on the way asks of its surroundings -/
def Room (A : Around) : Prop := A.handled = none ∧ A.guards = some [] ∧ A.depth ≤ 790 ∧ A.units ≤ 3900
def RSpec (hb : Heap) (T : PySem.Str) (P : Heap → Prop) : PySem.Spec := fun A R s => Room A ∧ Grow hb s.heap ∧ P s.heap ∧ ∀ h' t' k, Grow s.heap h' → R (.ok (.ret (.str T t'))) { s with heap := h', toks := k }
theorem meets_rep {q : Sem Fin} {T : PySem.Str} {hb : Heap} {P : Heap → Prop}
    (h : ∀ (A : Around) (s : Shared) (Q : Fin → Shared → Prop) (E : Value → Shared → Prop), A.handled = none → A.guards = some [] → A.depth ≤ 790 → A.units ≤ 3910 → Grow hb s.heap → P s.heap → (∀ h' t' k, Grow s.heap h' → Q (.done (.ret (.str T t'))) { s with heap := h', toks := k }) → wpAny (model prog w) A q Q E s) :
    MeetsIn prog w q (RSpec hb T P) := fun A R s hS =>
  wpAny_mono (h A.in1 s (fun fin s' => ∃ v, fin = .done (.ret v) ∧ R (.ok (.ret v)) s') (fun e s' => R (.error e) s') hS.1.1 hS.1.2.1 hS.1.2.2.1 (Nat.le_trans (Nat.succ_le_succ hS.1.2.2.2) (by decide)) hS.2.1 hS.2.2.1 fun h' t' k g => ⟨_, rfl, hS.2.2.2 h' t' k g⟩)
    (fun fin s' h' => by obtain ⟨v, rfl, hv⟩ := h'; exact hv) fun _ _ x => x
end
end Mine
end
section
open PySem PySem.W PySem.Calls PyProof.Rows Builtin Builtin.Str
set_option Elab.async false
set_option maxRecDepth 100000
set_option maxHeartbeats 4000000
namespace Mine
theorem args_5 (a b c d e : Value) : argsOk "str.format" ⟨[a, b, c, d, e], []⟩ := by
  unfold argsOk; rw [signature?_of (id := "str.format") (n := ['t', 'a', 'm', 'r', 'o', 'f']) (o := ['r', 't', 's']) (by kernel_rfl) F.owner_str]; kernel_rfl
section
variable {prog : Program} {w : World} {A : Around} {E : Value → Shared → Prop} {s : Shared} {v v2 v3 v4 : Value} {t t2 t3 t4 : PySem.Str}
theorem fmtM_meets {hb : Heap} {tk : Tok} (r1 : Rep prog w hb v t) (r2 : Rep prog w hb v2 t2) (r3 : Rep prog w hb v3 t3) (r4 : Rep prog w hb v4 t4) :
    MeetsIn prog w («str.format» ⟨[.str (PySem.Str.ofString "Bad value substitution: option {!r} in section {!r} contains an interpolation key {!r} which is not a valid option name. Raw value: {!r}") tk, v, v2, v3, v4], []⟩) (RSpec hb (PySem.Str.ofString "Bad value substitution: option " ++ t ++ PySem.Str.ofString " in section " ++ t2 ++ PySem.Str.ofString " contains an interpolation key " ++ t3 ++ PySem.Str.ofString " which is not a valid option name. Raw value: " ++ t4) (fun _ => True)) := by
  apply meets_rep
  intro A s Q E a1 a2 a3 a4 g ht hQ
  unfold Builtin.«str.format»
  refine wpAny_bind (wpAny_of_eq (a := (_, _, _)) rfl ?_)
  refine wpAny_bind ?_
  unfold Builtin.Str.buildString
  refine wpAny_bind ?_
  rw [KPc.range_list]
  refine KFm.start ?_
  intro _ _
  refine KPc.turn ?_; kpc_if; kpc_check
  refine wpAny_bind (KFm.field_auto (by kfm_num) (by rfl) ?_)
  refine wpAny_bind (wpAny_holding ?_)
  refine r1.obj _ _ _ _ a1 a2 (Nat.le_trans a3 (by decide)) (Nat.le_trans a4 (by decide)) (g) fun h1 u1 tk1 g1 => ?_
  kpc_if
  refine wpAny_bind (wpAny_pure ?_)
  refine wpAny_bind (wpAny_holding (wpAny_of_eq (KFm.formatOf_str _ _) ?_))
  refine wpAny_bind (wpAny_of_eq (a := some _) rfl ?_)
  refine wpAny_pure ?_
  refine KFm.after_field (by kpc_g) (by kpc_text) (by kpc_obj) r1.short (by kpc_obj) (by kfm_cat2) (by kfm_rest) ?_
  intro _ _
  refine KPc.turn ?_; kpc_if; kpc_check
  refine wpAny_bind (KFm.field_auto (by kfm_num) (by rfl) ?_)
  refine wpAny_bind (wpAny_holding ?_)
  refine r2.obj _ _ _ _ a1 a2 (Nat.le_trans a3 (by decide)) (Nat.le_trans a4 (by decide)) (g.trans g1) fun h2 u2 tk2 g2 => ?_
  kpc_if
  refine wpAny_bind (wpAny_pure ?_)
  refine wpAny_bind (wpAny_holding (wpAny_of_eq (KFm.formatOf_str _ _) ?_))
  refine wpAny_bind (wpAny_of_eq (a := some _) rfl ?_)
  refine wpAny_pure ?_
  refine KFm.after_field (by kpc_g) (by kpc_text) (by kpc_obj) r2.short (by kpc_obj) (by kfm_cat2) (by kfm_rest) ?_
  intro _ _
  refine KPc.turn ?_; kpc_if; kpc_check
  refine wpAny_bind (KFm.field_auto (by kfm_num) (by rfl) ?_)
  refine wpAny_bind (wpAny_holding ?_)
  refine r3.obj _ _ _ _ a1 a2 (Nat.le_trans a3 (by decide)) (Nat.le_trans a4 (by decide)) ((g.trans g1).trans g2) fun h3 u3 tk3 g3 => ?_
  kpc_if
  refine wpAny_bind (wpAny_pure ?_)
  refine wpAny_bind (wpAny_holding (wpAny_of_eq (KFm.formatOf_str _ _) ?_))
  refine wpAny_bind (wpAny_of_eq (a := some _) rfl ?_)
  refine wpAny_pure ?_
  refine KFm.after_field (by kpc_g) (by kpc_text) (by kpc_obj) r3.short (by kpc_obj) (by kfm_cat2) (by kfm_rest) ?_
  intro _ _
  refine KPc.turn ?_; kpc_if; kpc_check
  refine wpAny_bind (KFm.field_auto (by kfm_num) (by rfl) ?_)
  refine wpAny_bind (wpAny_holding ?_)
  refine r4.obj _ _ _ _ a1 a2 (Nat.le_trans a3 (by decide)) (Nat.le_trans a4 (by decide)) (((g.trans g1).trans g2).trans g3) fun h4 u4 tk4 g4 => ?_
  kpc_if
  refine wpAny_bind (wpAny_pure ?_)
  refine wpAny_bind (wpAny_holding (wpAny_of_eq (KFm.formatOf_str _ _) ?_))
  refine wpAny_bind (wpAny_of_eq (a := some _) rfl ?_)
  refine wpAny_pure ?_
  refine KFm.after_field (by kpc_g) (by kpc_text) (by kpc_obj) r4.short (by kpc_obj) (by kfm_cat2) (by kfm_rest) ?_
  intro _ _
  refine KPc.turn ?_; kpc_if
  refine wpAny_pure ?_
  refine wpAny_pure ?_
  refine KPc.finish_ok (by kpc_g) (by decide +kernel) rfl ?_
  exact fun t' k => hQ _ _ _ (((g1.trans g2).trans g3).trans g4)
theorem fmtD_meets {hb : Heap} {tk t10 : Tok} (r1 : Rep prog w hb v t) (r2 : Rep prog w hb v2 t2) (r4 : Rep prog w hb v4 t4) :
    MeetsIn prog w («str.format» ⟨[.str (PySem.Str.ofString "Recursion limit exceeded in value substitution: option {!r} in section {!r} contains an interpolation key which cannot be substituted in {} steps. Raw value: {!r}") tk, v, v2, .int 10 t10, v4], []⟩) (RSpec hb (PySem.Str.ofString "Recursion limit exceeded in value substitution: option " ++ t ++ PySem.Str.ofString " in section " ++ t2 ++ PySem.Str.ofString " contains an interpolation key which cannot be substituted in " ++ PySem.Str.ofString "10" ++ PySem.Str.ofString " steps. Raw value: " ++ t4) (fun _ => True)) := by
  apply meets_rep
  intro A s Q E a1 a2 a3 a4 g ht hQ
  unfold Builtin.«str.format»
  refine wpAny_bind (wpAny_of_eq (a := (_, _, _)) rfl ?_)
  refine wpAny_bind ?_
  unfold Builtin.Str.buildString
  refine wpAny_bind ?_
  rw [KPc.range_list]
  refine KFm.start ?_
  intro _ _
  refine KPc.turn ?_; kpc_if; kpc_check
  refine wpAny_bind (KFm.field_auto (by kfm_num) (by rfl) ?_)
  refine wpAny_bind (wpAny_holding ?_)
  refine r1.obj _ _ _ _ a1 a2 (Nat.le_trans a3 (by decide)) (Nat.le_trans a4 (by decide)) (g) fun h1 u1 tk1 g1 => ?_
  kpc_if
  refine wpAny_bind (wpAny_pure ?_)
  refine wpAny_bind (wpAny_holding (wpAny_of_eq (KFm.formatOf_str _ _) ?_))
  refine wpAny_bind (wpAny_of_eq (a := some _) rfl ?_)
  refine wpAny_pure ?_
  refine KFm.after_field (by kpc_g) (by kpc_text) (by kpc_obj) r1.short (by kpc_obj) (by kfm_cat2) (by kfm_rest) ?_
  intro _ _
  refine KPc.turn ?_; kpc_if; kpc_check
  refine wpAny_bind (KFm.field_auto (by kfm_num) (by rfl) ?_)
  refine wpAny_bind (wpAny_holding ?_)
  refine r2.obj _ _ _ _ a1 a2 (Nat.le_trans a3 (by decide)) (Nat.le_trans a4 (by decide)) (g.trans g1) fun h2 u2 tk2 g2 => ?_
  kpc_if
  refine wpAny_bind (wpAny_pure ?_)
  refine wpAny_bind (wpAny_holding (wpAny_of_eq (KFm.formatOf_str _ _) ?_))
  refine wpAny_bind (wpAny_of_eq (a := some _) rfl ?_)
  refine wpAny_pure ?_
  refine KFm.after_field (by kpc_g) (by kpc_text) (by kpc_obj) r2.short (by kpc_obj) (by kfm_cat2) (by kfm_rest) ?_
  intro _ _
  refine KPc.turn ?_; kpc_if; kpc_check
  refine wpAny_bind (KFm.field_auto (by kfm_num) (by rfl) ?_)
  refine wpAny_bind (wpAny_holding (wpAny_of_eq (a := _) rfl ?_))
  kpc_if
  refine wpAny_bind (wpAny_pure ?_)
  refine wpAny_bind (wpAny_holding (KFm.formatOf_int (by decide +kernel) ?_)); intro _ _
  refine wpAny_bind (wpAny_of_eq (a := some _) rfl ?_)
  refine wpAny_pure ?_
  refine KFm.after_field (K := 100) (by kpc_g) (by kpc_text) (by kpc_obj) (by decide +kernel) (by kpc_obj) (by kfm_cat2) (by kfm_rest) ?_
  intro _ _
  refine KPc.turn ?_; kpc_if; kpc_check
  refine wpAny_bind (KFm.field_auto (by kfm_num) (by rfl) ?_)
  refine wpAny_bind (wpAny_holding ?_)
  refine r4.obj _ _ _ _ a1 a2 (Nat.le_trans a3 (by decide)) (Nat.le_trans a4 (by decide)) (((g.trans g1).trans g2)) fun h4 u4 tk4 g4 => ?_
  kpc_if
  refine wpAny_bind (wpAny_pure ?_)
  refine wpAny_bind (wpAny_holding (wpAny_of_eq (KFm.formatOf_str _ _) ?_))
  refine wpAny_bind (wpAny_of_eq (a := some _) rfl ?_)
  refine wpAny_pure ?_
  refine KFm.after_field (by kpc_g) (by kpc_text) (by kpc_obj) r4.short (by kpc_obj) (by kfm_cat2) (by kfm_rest) ?_
  intro _ _
  refine KPc.turn ?_; kpc_if
  refine wpAny_pure ?_
  refine wpAny_pure ?_
  refine KPc.finish_ok (by kpc_g) (by decide +kernel) rfl ?_
  exact fun t' k => hQ _ _ _ (((g1.trans g2).trans g4))
theorem fmt_rep {hb : Heap} {X T : PySem.Str} {tk : Tok} {vs : List Value} {Q : Value → Shared → Prop} (hR : Room A) (g : Grow hb s.heap) (ha : argsOk "str.format" ⟨.str X tk :: vs, []⟩)
    (hm : MeetsIn prog w («str.format» ⟨.str X tk :: vs, []⟩) (RSpec hb T (fun _ => True)))
    (h : ∀ h' t' k, Grow s.heap h' → Q (.str T t') { s with heap := h', toks := k }) : wpAny (model prog w) A (call (.builtin "str.format") (.str X tk :: vs)) Q E s :=
  call_meetsIn F.slot_str_format_m (typeIs_str s X tk) F.entry_str_format_m ha hm ⟨hR, g, trivial, h⟩
end
end Mine
end
section
open PySem PySem.W PySem.Calls PyProof.Rows Builtin Builtin.Str
set_option Elab.async false
set_option maxRecDepth 100000
set_option maxHeartbeats 4000000
namespace Mine
section
variable {prog : Program} {w : World} {A : Around} {E : Value → Shared → Prop} {s : Shared} {h₀ : Heap} {L : Addr} {m : PySem.Str → Option Value} {news : List (Addr × Obj)} {Q : Value → Shared → Prop} {X T : PySem.Str} {tk : Tok}
theorem reprObj_use {v : Value} {t : PySem.Str} (r : Rep prog w h₀ v t) (F : Fr h₀ L s.heap m) (N : News h₀ L s.heap news) (h1 : A.handled = none) (h2 : A.guards = some []) (h3 : A.depth ≤ 800) (h4 : A.units ≤ 4000)
    (h : ∀ h' u tk, Fr h₀ L h' m → News h₀ L h' news → Q (.str t u) { s with heap := h', toks := tk }) : wpAny (model prog w) A (pyReprObj v) Q E s :=
  r.obj A s Q E h1 h2 h3 h4 F.keep fun h' u tk g => h h' u tk (fr_grow F g) (news_grow N g)
theorem fmt_use {vs : List Value} (F : Fr h₀ L s.heap m) (N : News h₀ L s.heap news) (hR : Room A) (ha : argsOk "str.format" ⟨.str X tk :: vs, []⟩)
    (hm : MeetsIn prog w («str.format» ⟨.str X tk :: vs, []⟩) (RSpec h₀ T (fun _ => True)))
    (h : ∀ h' u tk, Fr h₀ L h' m → News h₀ L h' news → Q (.str T u) { s with heap := h', toks := tk }) : wpAny (model prog w) A (call (.builtin "str.format") (.str X tk :: vs)) Q E s :=
  fmt_rep hR F.keep ha hm fun h' u k g => h h' u k (fr_grow F g) (news_grow N g)
end
end Mine
end
section
open PySem PySem.W PySem.Calls PyProof.Rows Builtin Builtin.List
set_option Elab.async false
set_option maxRecDepth 100000
set_option maxHeartbeats 4000000
namespace Mine
/-- how an item within a tuple or list is written -/
def RepI (prog : Program) (w : World) (hb : Heap) (v : Value) (t : PySem.Str) : Prop := ∀ (base : Nat), base + t.length ≤ sizeLine → ∀ (A : Around) (E : Value → Shared → Prop) (s : Shared) (Q : PySem.Str → Shared → Prop), A.handled = none → A.depth ≤ 850 → A.units ≤ 4200 → Grow hb s.heap →
  (∀ h' tk, Grow s.heap h' → Q t { s with heap := h', toks := tk }) → wpAny (model prog w) A (pyReprUnder base v) Q E s
section
variable {prog : Program} {w : World} {A : Around} {E : Value → Shared → Prop} {s : Shared} {K : Frag} {x C f : Addr} {ox : Obj} {od : Option Obj} {hb : Heap} {t : PySem.Str}
theorem repI_str {y : PySem.Str} {k : Tok} (hl : (reprText y).length ≤ 1000000) : RepI prog w hb (.str y k) (reprText y) := fun base hb A E s Q _ _ _ _ h =>
  ReprIs.str y k (by rw [sizeLine_eq]; omega) base hb A E s Q fun tk => h s.heap tk fun _ _ e => e
theorem RepI.mono {h' : Heap} {v : Value} (r : RepI prog w hb v t) (g : Grow hb h') : RepI prog w h' v t := fun base hl A E s Q a b c d e => r base hl A E s Q a b c (g.trans d) e
theorem by_K {last : Value → List Value → Sem Value} {M : Model} {Q : Value → Shared → Prop} (hu : A.units < cLine) (X : K.In s.heap) (I : InstAt s.heap x ox C od) (hs : findIn K (.ref C) "__repr__" = some (some (.ref f))) (hf : isFn K (.ref f) = true)
    (h : wpAny M A (last (.ref f) [.ref x]) (StrBack Q) E s) : wpAny M A (pyReprObjBy last (.ref x)) Q E s := by
  unfold pyReprObjBy
  refine wpAny_bind (wpAny_cRoomFor hu ?_)
  refine wpAny_bind (wpAny_bind (I.type.here ((looks_findIn X hs).here ?_)))
  show wpAny _ _ (if (some (Value.ref f)).isNone = true then _ else _) _ _ _
  rw [if_neg (by simp)]
  have key : wpAny M A (callSpecialIfBoundBy? last (.ref x) (PySem.Str.ofString "__repr__")) (fun r s' => ∃ y u, r = some (.str y u) ∧ Q (.str y u) s') E s := by
    simp only [callSpecialIfBoundBy?, bindSpecialIfBound?]
    refine wpAny_holding (wpAny_bind (wpAny_bind (wpAny_bind (I.type.here ((looks_findIn X hs).here ?_)))))
    refine wpAny_bind (wpAny_askSetting (wpAny_ite ?_))
    have fin : wpAny M A (last (.ref f) [.ref x] >>= fun v => pure (some v)) (fun r s' => ∃ y u, r = some (.str y u) ∧ Q (.str y u) s') E s := wpAny_bind (wpAny_mono h (fun v s' hv => wpAny_pure (by cases v <;> first | exact hv.elim | exact ⟨_, _, rfl, hv⟩)) fun _ _ e => e)
    split
    · exact wpAny_bind ((bind_fn X _ (beq_iff_eq.mp hf)).here (wpAny_pure (by exact fin)))
    · exact wpAny_tryCatch (wpAny_bind ((bind_fn X _ (beq_iff_eq.mp hf)).here (wpAny_pure (by exact fin))))
  refine wpAny_bind (wpAny_mono key (fun r s' hr => ?_) fun _ _ e => e)
  obtain ⟨y, u, rfl, hq⟩ := hr
  exact wpAny_bind (wpAny_isInstance (typeIs_str _ _ _) isSubtype_str_str (wpAny_pure hq))
/-- what the def __repr__ of a class gives for x, whatever stands around -/
def Tells (prog : Program) (w : World) (hb : Heap) (f x : Addr) (t : PySem.Str) : Prop := ∀ (A : Around) (s : Shared) (Q E : Value → Shared → Prop), A.handled = none → A.depth ≤ 880 → A.units ≤ 4400 → Grow hb s.heap →
  (∀ h' u tk, Grow s.heap h' → Q (.str t u) { s with heap := h', toks := tk }) → wpAny (model prog w) A (PySem.call (.ref f) [.ref x]) Q E s
theorem inst_grow {h h' : Heap} (I : InstAt h x ox C od) (g : Grow h h') : InstAt h' x ox C od := by
  obtain ⟨a, b, c, d⟩ := I
  refine ⟨g _ _ a, b, c, ?_⟩
  cases e : ox.dict with
  | none => rw [e] at d; cases od with
    | none => exact d
    | some o => exact d
  | some q => rw [e] at d; cases od with
    | none => exact d
    | some o => exact g _ _ d
theorem units_ok {n k : Nat} (h : n ≤ k) (hk : k < cLine) : n < cLine := Nat.lt_of_le_of_lt h hk
theorem rep_inst (X : K.In hb) (I : InstAt hb x ox C od) (hs : findIn K (.ref C) "__repr__" = some (some (.ref f))) (hf : isFn K (.ref f) = true) (c : Tells prog w hb f x t) (hl : t.length ≤ 1000000) : Rep prog w hb (.ref x) t where
  call := fun A s Q E a1 a2 a3 a4 g h => by
    refine Calls.call_function_entry PySem.F.kind_repr PySem.F.plain_repr PySem.F.entry_repr (PySem.F.args_repr1 _) ?_
    unfold Builtin.«repr»
    refine wpAny_bind (m := oneArg "repr" _) (wpAny_pure ?_)
    have X' := X.keeps g
    have I' := inst_grow I g
    refine wpAny_bind (wpAny_cRoomFor (units_ok (Nat.succ_le_succ a4) (by decide +kernel)) ?_)
    refine wpAny_bind (wpAny_bind (I'.type.here ((looks_findIn X' hs).here ?_)))
    show wpAny _ _ (if (some (Value.ref f)).isNone = true then _ else _) _ _ _
    rw [if_neg (by simp)]
    refine wpAny_bind (m := callSpecialIfBound? (.ref x) (PySem.Str.ofString "__repr__") _) (ifBound_K X' I' hs hf (c _ _ _ _ a1 (Nat.le_trans a3 (by decide)) (Nat.le_trans (Nat.succ_le_succ a4) (by decide)) g fun h' u tk g' => ?_))
    refine wpAny_bind (wpAny_isInstance (typeIs_str _ _ _) isSubtype_str_str ?_)
    exact wpAny_pure ⟨_, rfl, h h' u tk g'⟩
  obj := fun A s Q E a1 a2 a3 a4 g h => by
    rw [pyReprObj_eq_pyReprObjBy]
    exact by_K (units_ok a4 (by decide +kernel)) (X.keeps g) (inst_grow I g) hs hf (c _ _ _ _ a1 (Nat.le_trans a3 (by decide)) (Nat.le_trans a4 (by decide)) g h)
  under := fun n hn A s Q E a1 a2 a3 a4 g h => by
    unfold pyReprObjUnder
    exact by_K (units_ok a4 (by decide +kernel)) (X.keeps g) (inst_grow I g) hs hf (c _ _ _ _ a1 (Nat.le_trans a3 (by decide)) (Nat.le_trans a4 (by decide)) g h)
  short := hl
theorem repI_inst (X : K.In hb) (I : InstAt hb x ox C od) (hs : findIn K (.ref C) "__repr__" = some (some (.ref f))) (hf : isFn K (.ref f) = true) (c : Tells prog w hb f x t) : RepI prog w hb (.ref x) t := fun base hbs A E s Q a1 a3 a4 g h => by
  refine wpAny_pyReprUnder_ref (by omega) ?_
  unfold pyReprObjUnder
  exact by_K (units_ok a4 (by decide +kernel)) (X.keeps g) (inst_grow I g) hs hf (c _ _ _ _ a1 (Nat.le_trans a3 (by decide)) (Nat.le_trans a4 (by decide)) g fun h' u tk g' => ⟨_, _, rfl, h h' tk g'⟩)
/-- the items of a tuple, one by one -/
inductive RepAll (prog : Program) (w : World) (hb : Heap) : List Value → List PySem.Str → Prop
  | nil : RepAll prog w hb [] []
  | cons {v : Value} {t : PySem.Str} {l : List Value} {ts : List PySem.Str} : RepI prog w hb v t → RepAll prog w hb l ts → RepAll prog w hb (v :: l) (t :: ts)
theorem RepAll.len : ∀ {l : List Value} {ts : List PySem.Str}, RepAll prog w hb l ts → ts.length = l.length
  | _, _, .nil => rfl
  | _, _, .cons _ r => by simp [r.len]
theorem items_told (a1 : A.handled = none) (a3 : A.depth ≤ 850) (a4 : A.units ≤ 4200) : ∀ {l : List Value} {ts : List PySem.Str} (acc : Array PySem.Str) (n : Nat) (s : Shared) (Q : (Array PySem.Str × Nat) → Shared → Prop), RepAll prog w hb l ts → n + piled ts ≤ sizeLine → Grow hb s.heap →
    (∀ h' tk, Grow s.heap h' → Q (acc ++ ts.toArray, n + piled ts) { s with heap := h', toks := tk }) → wpAny (model prog w) A (forIn l (acc, n) tupBody) Q E s := by
  intro l ts acc n s Q r
  induction r generalizing acc n s Q with
  | nil =>
    intro _ _ h
    rw [List.forIn_nil]
    have := h s.heap s.toks (Grow.refl _)
    exact wpAny_pure (by simpa [piled] using this)
  | @cons v t l ts hv r ih =>
    intro hn g h
    have hp : piled (t :: ts) = (t.length + 2) + piled ts := piled_cons t ts
    rw [List.forIn_cons]
    refine wpAny_bind (wpAny_bind (hv (n + 1) (by omega) A E s _ a1 a3 a4 g fun h1 k1 g1 => wpAny_pure ?_))
    refine ih (acc.push t) (n + (t.length + 2)) _ Q (by omega) (g.trans g1) fun h2 k2 g2 => ?_
    have q := h h2 k2 (g1.trans g2)
    rw [show n + piled (t :: ts) = n + (t.length + 2) + piled ts by omega] at q
    simpa using q
theorem tup_own {a : Addr} {o : Obj} {its : Array Value} {n : Nat} {ts : List PySem.Str} (ha : hb.get? a = some o) (hd : o.data = .seq its n) (hT : RepAll prog w hb its.toList ts)
    {R : Result → Shared → Prop} {base : Nat} {id : String} {rest : List Value} (hcu : (A.under (.builtin id ⟨.ref a :: rest, []⟩)).units = A.units + 1)
    (a1 : A.handled = none) (a2 : A.guards = some []) (a3 : A.depth ≤ 800) (a4 : A.units ≤ 4100) (g : Grow hb s.heap)
    (hR : ∀ h' u tk, Grow s.heap h' → R (.ok (.ret (.str (tupleText ts) u))) { s with heap := h', toks := tk }) (hz : base + (tupleText ts).length ≤ sizeLine) (hh : (A.under (.builtin id ⟨.ref a :: rest, []⟩)).handled = A.handled) (hdp : (A.under (.builtin id ⟨.ref a :: rest, []⟩)).depth ≤ A.depth + 1) :
    wpOwn (model prog w) A (.builtin id ⟨.ref a :: rest, []⟩) (Builtin.tupleReprAt base ⟨[.ref a], []⟩) (fun fin s' => match fin with | .done f => R (.ok f) s' | .again c' => c'.quiet = true ∧ codeAny (model prog w) A c' R s') (fun e s' => R (.error e) s') s := by
  have hp := piled_le_tupleText ts
  have hlen : ts.length = its.size := by simpa using hT.len
  rw [tuple_repr_tree, tupleReprUnderWay_eq]
  refine wpOwn_bind (wpOwn_stackTailAny a2 (tupGuardF_off _) (tupGuardF_pos _) ?_)
  refine wpOwn_of_wpAny ?_
  show wpAny _ _ (tupleReprRest base (.ref a)) _ _ s
  unfold tupleReprRest Builtin.Tuple.tupleItemsOf
  refine wpAny_bind (wpAny_bind (wpAny_seqItems (g _ _ ha) hd (wpAny_pure ?_)))
  rw [← Array.forIn_toList]
  refine wpAny_bind (items_told (hh.trans a1) (by omega) (by rw [hcu]; omega) _ _ _ _ hT (by omega) g fun h' tk g' => ?_)
  refine wpAny_bind (wpAny_mkStr (wpAny_pure ?_) (by simpa [tupleText, hlen] using (by omega : (tupleText ts).length ≤ sizeLine)))
  have q := hR h' tk (tk + 1) g'
  simpa [tupleText, hlen] using q
theorem wt_tup (args : Args) : (Code.builtin "tuple.__repr__" args).weight = 1 := by kernel_rfl
theorem wt_tupU (args : Args) : (Code.builtin "tuple.__repr__.under" args).weight = 1 := by kernel_rfl
theorem dep_tup (A : Around) (args : Args) : (A.under (.builtin "tuple.__repr__" args)).depth ≤ A.depth + 1 := by
  show A.depth + Code.weight _ ≤ _
  rw [wt_tup]; omega
theorem dep_tupU (A : Around) (args : Args) : (A.under (.builtin "tuple.__repr__.under" args)).depth ≤ A.depth + 1 := by
  show A.depth + Code.weight _ ≤ _
  rw [wt_tupU]; omega
theorem rep_tup {a : Addr} {o : Obj} {its : Array Value} {n : Nat} {ts : List PySem.Str} (ha : hb.get? a = some o) (hc : o.cls = .type "tuple") (hd : o.data = .seq its n) (hT : RepAll prog w hb its.toList ts) (hl : (tupleText ts).length ≤ 1000000) : Rep prog w hb (.ref a) (tupleText ts) := by
  have hz := sizeLine_eq
  have direct : ∀ (A : Around) (s : Shared) (Q E : Value → Shared → Prop), A.handled = none → A.guards = some [] → A.depth ≤ 800 → A.units ≤ 4100 → Grow hb s.heap →
      (∀ h' u tk, Grow s.heap h' → Q (.str (tupleText ts) u) { s with heap := h', toks := tk }) → wpAny (model prog w) A (PySem.call (.builtin "tuple.__repr__") [.ref a]) Q E s := fun A s Q E a1 a2 a3 a4 g h =>
    wpAny_call (codeAny_call_builtin_own (Code.quiet_builtin _ (by decide +kernel)) F.entry_tuple_repr (F.slot_tuple_repr.check _ _ _ _ _ _ _ _ ⟨o, g _ _ ha, hc⟩ (F.args_tuple_repr_1 _)
      (tup_own (base := 0) (R := callEnd Q E) ha hd hT (units_under_tuple_repr _ _) a1 a2 a3 a4 g h (by omega) rfl (dep_tup _ _))))
  refine ⟨fun A s Q E a1 a2 a3 a4 g h => ?_, fun A s Q E a1 a2 a3 a4 g h => ?_, fun m hm A s Q E a1 a2 a3 a4 g h => ?_, hl⟩
  · have hTy : s.TypeIs (.ref a) "tuple" := ⟨o, g _ _ ha, hc⟩
    refine Calls.call_function_entry PySem.F.kind_repr PySem.F.plain_repr PySem.F.entry_repr (PySem.F.args_repr1 _) ?_
    unfold Builtin.«repr»
    refine wpAny_bind (m := oneArg "repr" _) (wpAny_pure ?_)
    refine wpAny_bind (wpAny_cRoomFor (units_ok (Nat.succ_le_succ a4) (by decide +kernel)) ?_)
    refine wpAny_bind (wpAny_specialOf (name := PySem.Str.ofString "__repr__") hTy F.slot_tuple_repr.lookup ?_)
    refine wpAny_bind (m := callSpecialIfBound? (.ref a) (PySem.Str.ofString "__repr__") _) (wpAny_callSpecialIfBound?_slotG (name := PySem.Str.ofString "__repr__") hTy F.slot_tuple_repr
      (direct _ _ _ _ a1 a2 a3 (Nat.le_trans (Nat.succ_le_succ a4) (by decide)) g fun h' u tk g' => ?_))
    exact wpAny_bind (wpAny_isInstance (T := "str") (b := true) rfl isSubtype_str_str (wpAny_pure ⟨_, rfl, h h' u tk g'⟩))
  · have hTy : s.TypeIs (.ref a) "tuple" := ⟨o, g _ _ ha, hc⟩
    unfold pyReprObj
    refine wpAny_bind (wpAny_cRoomFor (units_ok a4 (by decide +kernel)) ?_)
    refine wpAny_bind (wpAny_specialOf (name := PySem.Str.ofString "__repr__") hTy F.slot_tuple_repr.lookup ?_)
    refine wpAny_bind (m := callSpecialIfBound? (.ref a) (PySem.Str.ofString "__repr__")) (wpAny_callSpecialIfBound?_slotG (name := PySem.Str.ofString "__repr__") hTy F.slot_tuple_repr
      (direct _ _ _ _ a1 a2 a3 (Nat.le_trans a4 (by decide)) g fun h' u tk g' => ?_))
    exact wpAny_bind (wpAny_isInstance (T := "str") (b := true) rfl isSubtype_str_str (wpAny_pure (h h' u tk g')))
  · exact wpAny_pyReprObjUnder_twin (twin := "tuple.__repr__.under") ⟨o, g _ _ ha, hc⟩ F.slot_tuple_repr rfl (units_ok a4 (by decide +kernel))
      (call_twin_own (F.quiet_tuple_repr_under _) F.entry_tuple_repr_under F.check_tuple_repr_under ⟨o, g _ _ ha, hc⟩ F.slot_tuple_repr (F.args_tuple_repr_1 _)
        (tup_own (R := callEnd _ E) ha hd hT (units_under_tuple_repr_under _ _) a1 a2 a3 (Nat.le_trans a4 (by decide)) g (fun h' u tk g' => ⟨⟨_, _, rfl⟩, h h' u tk g'⟩) (by omega) rfl (dep_tupU _ _)))
end
end Mine
end
section
open PySem PySem.W PySem.Calls PyProof.Rows Builtin Builtin.List
set_option Elab.async false
set_option maxRecDepth 100000
set_option maxHeartbeats 4000000
namespace Mine
def partsObj (acc : Array Value) (c : Nat) : Obj := { cls := .type "list", dict := none, data := .seq acc c, slots := #[] }
theorem wt_loop (args : Args) : (Code.builtin "list.__repr__.loop" args).weight = 1 := by kernel_rfl
section
variable {prog : Program} {w : World} {A : Around} {E : Value → Shared → Prop} {s : Shared} {hb : Heap} {R : Result → Shared → Prop}
/-- one item of a list is written -/
theorem loop_item {a P : Addr} {its acc : Array Value} {na c i b : Nat} {v : Value} {t : PySem.Str} {oa : Obj} (hv : its[i]? = some v) (r : RepI prog w hb v t) (a1 : A.handled = none) (a3 : A.depth ≤ 800) (a4 : A.units ≤ 4100)
    (g : Grow hb s.heap) (hP0 : hb.get? P = none) (ha : hb.get? a = some oa) (hda : oa.data = .seq its na) (hP : s.heap.get? P = some (partsObj acc c)) (hbt : b + 1 + t.length ≤ sizeLine) (hac : acc.size ≤ 1000)
    (next : ∀ h' tk c', Grow hb h' → (∀ q o, q ≠ P → s.heap.get? q = some o → h'.get? q = some o) → h'.get? P = some (partsObj (acc.push (.str t tk)) c') →
      codeAny (model prog w) A (.builtin "list.__repr__.loop" ⟨[.ref a, rawInt ((i + 1 : Nat) : Int), .ref P, rawInt ((b + (t.length + 2) : Nat) : Int)], []⟩) R { s with heap := h', toks := tk + 1 }) :
    codeAny (model prog w) A (.builtin "list.__repr__.loop" ⟨[.ref a, rawInt (i : Int), .ref P, rawInt (b : Int)], []⟩) R s := by
  have hz := sizeLine_eq
  refine codeAny_builtin F.entry_list_repr_loop ?_
  show wpAny _ _ («list.__repr__.loop» ⟨[.ref a, .int i 0, .ref P, .int (b : Int) 0], []⟩) _ _ s
  rw [repr_loop_tree]
  refine wpAny_bind (wpAny_listItems (g _ _ ha) hda ?_)
  simp only [Int.toNat_natCast, hv]
  refine wpAny_bind (wpAny_holding (r (b + 1) hbt _ _ _ _ a1 ?_ (by rw [units_under_list_loop]; omega) g fun h1 k1 g1 => ?_))
  · show A.depth + Code.weight _ ≤ _
    rw [wt_loop]; omega
  refine wpAny_bind (wpAny_mkStr ?_ (by omega))
  refine wpAny_bind ?_
  show wpAny _ _ (updateSeq P _) _ _ _
  refine wpAny_updateSeq (g1 _ _ hP) rfl (wpAny_pure ⟨F.quiet_list_repr_loop _, ?_⟩) (by omega)
  have e1 : ((i : Int) + 1) = ((i + 1 : Nat) : Int) := by omega
  rw [e1]
  exact next _ k1 _ (fun q o e => (Heap.get?_update_other _ _ (fun z : P = q => by rw [← z, hP0] at e; cases e)).trans (g1 _ _ (g _ _ e)))
    (fun q o hq e => (Heap.get?_update_other _ _ (fun z : P = q => hq z.symm)).trans (g1 _ _ e)) (Heap.get?_update_self _ (g1 _ _ hP) rfl)
/-- all of them are -/
theorem loop_done {a P : Addr} {its : Array Value} {na c i b : Nat} {oa : Obj} {done : List (PySem.Str × Tok)} {T : PySem.Str} (hv : its[i]? = none) (g : Grow hb s.heap) (ha : hb.get? a = some oa) (hda : oa.data = .seq its na) (hP : s.heap.get? P = some (partsObj (strValues done).toArray c))
    (hT : listText (done.map (·.1)) = T) (hl : T.length ≤ sizeLine) (hR : ∀ u tk, R (.ok (.ret (.str T u))) { s with toks := tk }) :
    codeAny (model prog w) A (.builtin "list.__repr__.loop" ⟨[.ref a, rawInt (i : Int), .ref P, rawInt (b : Int)], []⟩) R s := by
  subst hT
  refine codeAny_builtin F.entry_list_repr_loop ?_
  show wpAny _ _ («list.__repr__.loop» ⟨[.ref a, .int i 0, .ref P, .int (b : Int) 0], []⟩) _ _ s
  rw [repr_loop_tree]
  refine wpAny_bind (wpAny_listItems (g _ _ ha) hda ?_)
  simp only [Int.toNat_natCast, hv]
  unfold reprEnd
  refine wpAny_bind (wpAny_listItems hP rfl ?_)
  rw [show (strValues done).toArray.toList = strValues done by simp, repr_fold]
  refine wpAny_bind (wpAny_pure ?_)
  exact wpAny_bind (wpAny_mkStr (wpAny_pure (hR _ _)) hl)
/-- a list of two is written -/
theorem two_told {a : Addr} {na base : Nat} {v1 v2 : Value} {t1 t2 : PySem.Str} {oa : Obj} (r1 : RepI prog w hb v1 t1) (r2 : RepI prog w hb v2 t2) (ha : hb.get? a = some oa) (hda : oa.data = .seq #[v1, v2] na) (a1 : A.handled = none) (a2 : A.guards = some []) (a3 : A.depth ≤ 800) (a4 : A.units ≤ 4100) (g : Grow hb s.heap)
    (l1 : t1.length ≤ 100000) (l2 : t2.length ≤ 100000) (hbs : base ≤ 2000000)
    (hR : ∀ h' u tk, Grow s.heap h' → R (.ok (.ret (.str (listText [t1, t2]) u))) { s with heap := h', toks := tk }) :
    wpAny (model prog w) A.in1 (Builtin.listReprAt base ⟨[.ref a], []⟩) (fun fin s' => match fin with | .done f => R (.ok f) s' | .again c' => c'.quiet = true ∧ codeAny (model prog w) A c' R s') (fun e s' => R (.error e) s') s := by
  have hz := sizeLine_eq
  have hP0 : hb.get? s.heap.objs.size = none := by
    cases e : hb.get? s.heap.objs.size with
    | none => rfl
    | some o => exact absurd (Heap.lt_size (g _ _ e)) (Nat.lt_irrefl _)
  refine wpAny_list_repr_head (A := A.in1) a2 (fun v rest kw hm => nomatch hm) (g _ _ ha) (x := v1) (l := [v2]) hda ?_
  refine wpAny_bind (m := newList []) (wpAny_newObj_type ?_)
  refine wpAny_pure ⟨F.quiet_list_repr_loop _, ?_⟩
  refine loop_item (i := 0) (its := #[v1, v2]) (v := v1) (acc := #[]) rfl r1 a1 a3 a4 (fun b o e => Heap.get?_push_of_some _ (g _ _ e)) hP0 ha hda (Heap.get?_push_size _ rfl) (by omega) (by decide) fun h1 k1 c1 g1 q1 p1 => ?_
  refine loop_item (i := 1) (its := #[v1, v2]) (v := v2) rfl r2 a1 a3 a4 g1 hP0 ha hda p1 (by omega) (by simp) fun h2 k2 c2 g2 q2 p2 => ?_
  refine loop_done (i := 2) (its := #[v1, v2]) (done := [(t1, k1), (t2, k2)]) rfl g2 ha hda p2 rfl ?_ fun u tk => hR _ _ _ fun b o e => ?_
  · have h := textFrom_len [t1, t2] 0 "["
    show (textFrom 0 "[" [t1, t2] ++ "]").length ≤ _
    rw [strLen_append]
    have e1 : (textFrom 0 "[" [t1, t2]).length ≤ 200100 := by
      show ((("[" : PySem.Str) ++ (if (0 : Nat) > 0 then ", " else "" : String) ++ t1) ++ (if (0 : Nat) + 1 > 0 then ", " else "" : String) ++ t2).length ≤ _
      simp only [strLen_append]
      have x1 : (PySem.Str.ofString "[").length = 1 := rfl
      have x2 : (PySem.Str.ofString (if (0 : Nat) > 0 then ", " else "" : String)).length = 0 := rfl
      have x3 : (PySem.Str.ofString (if (0 : Nat) + 1 > 0 then ", " else "" : String)).length = 2 := rfl
      omega
    have e2 : (PySem.Str.ofString "]").length = 1 := rfl
    omega
  · have hne : b ≠ s.heap.objs.size := Nat.ne_of_lt (Heap.lt_size e)
    exact q2 b o hne (q1 b o hne (Heap.get?_push_of_some _ e))
theorem rep_list2 {a : Addr} {na : Nat} {v1 v2 : Value} {t1 t2 : PySem.Str} {oa : Obj} (r1 : RepI prog w hb v1 t1) (r2 : RepI prog w hb v2 t2) (ha : hb.get? a = some oa) (hc : oa.cls = .type "list") (hda : oa.data = .seq #[v1, v2] na)
    (l1 : t1.length ≤ 100000) (l2 : t2.length ≤ 100000) (hl : (listText [t1, t2]).length ≤ 1000000) : Rep prog w hb (.ref a) (listText [t1, t2]) := by
  have hz := sizeLine_eq
  have direct : ∀ (A : Around) (s : Shared) (Q E : Value → Shared → Prop), A.handled = none → A.guards = some [] → A.depth ≤ 800 → A.units ≤ 4100 → Grow hb s.heap →
      (∀ h' u tk, Grow s.heap h' → Q (.str (listText [t1, t2]) u) { s with heap := h', toks := tk }) → wpAny (model prog w) A (PySem.call (.builtin "list.__repr__") [.ref a]) Q E s := fun A s Q E a1 a2 a3 a4 g h =>
    wpAny_call (codeAny_call_builtin F.slot_list_repr.plain F.entry_list_repr (F.slot_list_repr.check _ _ _ _ _ _ _ _ ⟨oa, g _ _ ha, hc⟩ (F.args_list_repr_1 _)
      (two_told (base := 0) (R := callEnd Q E) r1 r2 ha hda a1 a2 a3 a4 g l1 l2 (by decide) h)))
  refine ⟨fun A s Q E a1 a2 a3 a4 g h => ?_, fun A s Q E a1 a2 a3 a4 g h => ?_, fun m hm A s Q E a1 a2 a3 a4 g h => ?_, hl⟩
  · have hTy : s.TypeIs (.ref a) "list" := ⟨oa, g _ _ ha, hc⟩
    refine Calls.call_function_entry PySem.F.kind_repr PySem.F.plain_repr PySem.F.entry_repr (PySem.F.args_repr1 _) ?_
    unfold Builtin.«repr»
    refine wpAny_bind (m := oneArg "repr" _) (wpAny_pure ?_)
    refine wpAny_bind (wpAny_cRoomFor (units_ok (Nat.succ_le_succ a4) (by decide +kernel)) ?_)
    refine wpAny_bind (wpAny_specialOf (name := PySem.Str.ofString "__repr__") hTy F.slot_list_repr.lookup ?_)
    refine wpAny_bind (m := callSpecialIfBound? (.ref a) (PySem.Str.ofString "__repr__") _) (wpAny_callSpecialIfBound?_slot (name := PySem.Str.ofString "__repr__") hTy F.slot_list_repr
      (direct _ _ _ _ a1 a2 a3 (Nat.le_trans (Nat.succ_le_succ a4) (by decide)) g fun h' u tk g' => ?_))
    exact wpAny_bind (wpAny_isInstance (T := "str") (b := true) rfl isSubtype_str_str (wpAny_pure ⟨_, rfl, h h' u tk g'⟩))
  · have hTy : s.TypeIs (.ref a) "list" := ⟨oa, g _ _ ha, hc⟩
    unfold pyReprObj
    refine wpAny_bind (wpAny_cRoomFor (units_ok a4 (by decide +kernel)) ?_)
    refine wpAny_bind (wpAny_specialOf (name := PySem.Str.ofString "__repr__") hTy F.slot_list_repr.lookup ?_)
    refine wpAny_bind (m := callSpecialIfBound? (.ref a) (PySem.Str.ofString "__repr__")) (wpAny_callSpecialIfBound?_slot (name := PySem.Str.ofString "__repr__") hTy F.slot_list_repr
      (direct _ _ _ _ a1 a2 a3 (Nat.le_trans a4 (by decide)) g fun h' u tk g' => ?_))
    exact wpAny_bind (wpAny_isInstance (T := "str") (b := true) rfl isSubtype_str_str (wpAny_pure (h h' u tk g')))
  · exact wpAny_pyReprObjUnder_twin (twin := "list.__repr__.under") ⟨oa, g _ _ ha, hc⟩ F.slot_list_repr.toG rfl (units_ok a4 (by decide +kernel))
      (call_twin_plain F.plain_list_repr_under F.entry_list_repr_under F.check_list_repr_under ⟨oa, g _ _ ha, hc⟩ F.slot_list_repr.toG (F.args_list_repr_1 _)
        (two_told (R := callEnd _ E) r1 r2 ha hda a1 a2 a3 (Nat.le_trans a4 (by decide)) g l1 l2 hm (fun h' u tk g' => ⟨⟨_, _, rfl⟩, h h' u tk g'⟩)))
end
end Mine
end
section
open PySem PySem.W PySem.Calls PyProof.Rows
set_option Elab.async false
set_option maxRecDepth 100000
set_option maxHeartbeats 4000000
namespace Mine
theorem kitAt_tup {h h' : Heap} {a : Addr} {its : Array Value} (x : IsTup h a its) (g : Grow h h') : KitAt a "tuple" h' := by
  obtain ⟨o, ho, hc, _⟩ := x
  exact ⟨o, g _ _ ho, hc⟩
theorem kitAt_list {h h' : Heap} {a : Addr} {its : Array Value} (x : h.IsList a its) (g : Grow h h') : KitAt a "list" h' := by
  obtain ⟨o, ho, hc, _⟩ := x
  exact ⟨o, g _ _ ho, hc⟩
end Mine
end
section
open PySem PySem.W PySem.Spec PySem.Calls PyProof.Rows PyProof.Rows.LCg
set_option Elab.async false
set_option maxRecDepth 100000
set_option maxHeartbeats 4000000
namespace Mine
/-- the source of a comprehension is a tuple that stood ahead of the frame -/
def SrcT (prog : Program) (w : World) (A : Around) (h₀ : Heap) (L : Addr) (m : Str → Option Value) (env : Env) (elt : Expr) (x : Str) (scope : Scope) (cl : List (Str × Addr)) (Fin : Shared → List Value → List (Addr × Obj) → Prop) (xv : Value) (s₁ : Shared) : Prop :=
  ∃ ax its news, xv = .ref ax ∧ A.handled = none ∧ Fr h₀ L s₁.heap m ∧ News h₀ L s₁.heap news ∧ h₀.IsTuple ax its ∧ its.size ≤ sizeLine ∧
    ∀ g, CompRest prog w A h₀ L m env elt x scope cl { s₁ with heap := g } (fun _ => True) (fun i v => its[i]? = some v) (Fin { s₁ with heap := g }) its.size 0 [] news
section
variable {prog : Program} {w : World} {A : Around} {E : Value → Shared → Prop} {s : Shared} {h₀ : Heap} {L : Addr} {m : Str → Option Value} {env : Env}
theorem srcT_base {elt : Expr} {x : Str} {scope : Scope} {cl : List (Str × Addr)} {Fin : Shared → List Value → List (Addr × Obj) → Prop} {ax : Addr} {its : Array Value} {news : List (Addr × Obj)} {s₁ : Shared}
    (hh : A.handled = none) (F : Fr h₀ L s₁.heap m) (N : News h₀ L s₁.heap news) (ht : IsTup h₀ ax its) (hsz : its.size ≤ sizeLine)
    (h : ∀ g, CompRest prog w A h₀ L m env elt x scope cl { s₁ with heap := g } (fun _ => True) (fun i v => its[i]? = some v) (Fin { s₁ with heap := g }) its.size 0 [] news) :
    SrcT prog w A h₀ L m env elt x scope cl Fin (.ref ax) s₁ := ⟨ax, its, news, rfl, hh, F, N, ht, hsz, h⟩
theorem ListComp_tup {elt iter : Expr} {x : Str} {px : Pos} {scope : Scope} {cl : List (Str × Addr)} {pos : Pos} {Q : Value → Shared → Prop} (F₀ : Fr h₀ L s.heap m)
    (hclos : closureFor scope env = pure cl) (hcell : ∀ y ∈ scope.names, y.2 ≠ .cell) (hkind : scope.kind = .function)
    (hnames : ∀ y ∈ scope.names, y.2 = .local → scope.names.lookup y.1 = some .local) (hx : scope.names.lookup x = some .local)
    (h : wpAny (model prog w) A (eval iter env) (SrcT prog w A h₀ L m env elt x scope cl (fun s₂ => FinE h₀ L m s₂ Q)) E s)
    (hs : ∀ x, foldedSetIterable iter env x = pure x := by intro _; rfl) :
    wpAny (model prog w) A (eval (.ListComp elt [⟨.Name x px, iter, [], 0⟩] scope pos) env) Q E s := by
  rw [eval_ListComp]
  refine wpAny_comprehension_free (use := none) rfl hs hclos hkind hnames (wpAny_mono h (fun xv s₁ h₁ => ?_) fun _ _ e => e)
  obtain ⟨ax, its, news, rfl, hh, F, N, ht, hsz, R⟩ := h₁
  have hl : s₁.heap.IsTuple ax its := by
    obtain ⟨o, e, r⟩ := ht
    exact ⟨o, F.keep _ _ e, r⟩
  have hlt : ax < s₁.heap.objs.size := by obtain ⟨_, e, _⟩ := hl; exact Heap.lt_size e
  have up : ∀ b o, s₁.heap.get? b = some o → (s₁.heap.push { cls := .type "tuple_iterator", data := .fields #[.ref ax, .int 0 0] }).get? b = some o := fun b o e => Heap.get?_push_of_some _ e
  refine wpAny_pyIter_tuple hl ?_
  refine block_U (S := fun _ => True) (Walks.tuple hh s₁.heap.objs.size ax (Nat.ne_of_lt hlt) its) hsz (fun i h st => by obtain ⟨o, e, _⟩ := st.1; exact ⟨o, e⟩) ?_ hcell hkind hx ⟨⟨_, Heap.get?_push_size _ rfl, rfl, rfl⟩, hl.push _⟩ (fun b hb => ?_)
    (F.keeps up) (N.grown up) (Nat.ne_of_lt F.ns.lt) (next_is_new F) (fun p hp => Nat.ne_of_lt (Heap.lt_size (N p hp).1)) trivial (R _) ?_
  · intro i h h' o nw st e e' k _ _
    refine ⟨?_, ?_⟩
    · obtain ⟨o', q, r⟩ := st.1
      rw [e] at q; cases q
      exact ⟨o, e', r⟩
    · obtain ⟨o', q, r⟩ := ht
      exact ⟨o', k _ _ q, r⟩
  · show b < (s₁.heap.push _).objs.size
    rw [Heap.size_push]
    rcases List.mem_cons.mp hb with rfl | hb
    · exact Nat.lt_succ_self _
    · rw [List.mem_singleton.mp hb]; exact Nat.lt_succ_of_lt hlt
  · intro D C h tk m' ys news' F' N' o1 hn hC₀ hD₀ hCL hDL hCD offC fin
    refine ⟨m', hn, fun h'' hs'' => fin D h'' tk (F'.change hs'' hCL hC₀) (fun p hp => ?_) o1⟩
    refine ⟨hs''.extBut _ _ ?_ (N' p hp).1, (N' p hp).2⟩
    rcases List.mem_cons.mp hp with rfl | hp
    · exact Ne.symm hCD
    · exact offC p hp
end
end Mine
namespace Mine
theorem jl1 (a b : Str) : (Txt.join a [b]).length = b.length := by
  unfold Txt.join
  rw [StrLaws.glued_eq_join]
  rfl
theorem jl2 (a b c : Str) : (Txt.join a [b, c]).length = b.length + a.length + c.length := by
  unfold Txt.join
  rw [StrLaws.glued_eq_join]
  show (b ++ a ++ Str.join a [c]).length = _
  rw [PySem.Str.length_append, PySem.Str.length_append]
  rfl
end Mine
end
section
open PySem PySem.W PySem.Calls PyProof.Rows
set_option Elab.async false
set_option maxRecDepth 100000
set_option maxHeartbeats 4000000
namespace Mine
/-- around, with whatever guards -/
def AN (d u : Nat) : Around := { handled := none, depth := d, frames := none, guards := none, units := u }
theorem weakenN {α : Type} {M : Model} {A : Around} {d u : Nat} {t : Sem α} {Q : α → Shared → Prop} {E : Value → Shared → Prop} {s : Shared} (h1 : A.handled = none) (h2 : A.depth ≤ d) (h3 : A.units ≤ u) (h : wpAny M (AN d u) t Q E s) : wpAny M A t Q E s :=
  fun Γ p hΓ => h Γ p ⟨hΓ.1.trans h1, Nat.le_trans hΓ.2.1 h2, (by intro _ e; cases e), (by intro g e; cases e), Nat.le_trans hΓ.2.2.2.2 h3⟩
/-- an attribute of an object reads so -/
def Gets (prog : Program) (w : World) (h : Heap) (e : Addr) (name : Str) (v : Value) : Prop := ∀ (A : Around) (s : Shared) (Q E : Value → Shared → Prop) (expr : Bool), Grow h s.heap → Q v { s with toks := s.toks + 1 } → wpAny (model prog w) A (getAttr (.ref e) name expr) Q E s
/-- str of an object -/
def StrOk (prog : Program) (w : World) (h : Heap) (e : Addr) (t : Str) : Prop := ∀ (A : Around) (s : Shared) (Q E : Value → Shared → Prop), A.handled = none → A.depth ≤ 850 → A.units ≤ 4200 → Grow h s.heap →
  (∀ h' u tk, Grow s.heap h' → Q (.str t u) { s with heap := h', toks := tk }) → wpAny (model prog w) A (call (.type "str") [.ref e]) Q E s
def clsB (K : Frag) (C f : Addr) : Bool := excGet K C && hasDictIn K C && (clsIn K C).isSome && (findIn K (.ref C) "args" == some (some (.builtin "BaseException.args"))) && (specialIn K (.builtin "BaseException.args") "__get__" == some (some (.builtin "getset_descriptor.__get__"))) && (takesIn K (.builtin "BaseException.args") == some true) && (findIn K (.ref C) "__str__" == some (some (.ref f))) && (findIn K (.ref C) "__repr__" == some (some (.ref f))) && isFn K (.ref f)
def nameB (K : Frag) (C : Addr) (name : Str) : Bool := match findIn K (.ref C) name with
  | some attr => noGet K attr
  | none => false
section
variable {prog : Program} {w : World} {A : Around} {E : Value → Shared → Prop} {s : Shared} {h₀ h h' : Heap} {L e d ta C f : Addr} {od : Obj} {m : Str → Option Value} {news : List (Addr × Obj)} {v : Value} {name t : Str} {Q : Value → Shared → Prop} {K : Frag}
theorem Gets.grow (g : Gets prog w h e name v) (k : Grow h h') : Gets prog w h' e name v := fun A s Q E x a b => g A s Q E x (k.trans a) b
theorem StrOk.grow (g : StrOk prog w h e t) (k : Grow h h') : StrOk prog w h' e t := fun A s Q E a b c d x => g A s Q E a b c (k.trans d) x
theorem gets_use {expr : Bool} (g : Gets prog w h₀ e name v) (F : Fr h₀ L s.heap m) (q : Q v { s with toks := s.toks + 1 }) : wpAny (model prog w) A (getAttr (.ref e) name expr) Q E s := g A s Q E expr F.keep q
theorem gets_field (X : K.In h) (he : h.get? e = some (excObj C (some d) ta)) (hd : h.get? d = some od) (c : clsB K C f = true) (n : nameB K C name = true) (hl : lookIn name od = some (some v)) (hv : handedIn v = true) : Gets prog w h e name v := by
  intro A s Q E x g q
  simp only [clsB, Bool.and_eq_true] at c
  unfold nameB at n
  split at n
  · rename_i attr ha
    exact exc_get (X.keeps g) ⟨g _ _ he, rfl, rfl, g _ _ hd⟩ c.1.1.1.1.1.1.1.1 (findObj_own c.1.1.1.1.1.1.1.2 ha n hl) hv q
  · cases n
theorem gets_args (X : K.In h) (he : h.get? e = some (excObj C (some d) ta)) (hd : h.get? d = some od) (c : clsB K C f = true) : Gets prog w h e "args" (.ref ta) := by
  intro A s Q E x g q
  simp only [clsB, Bool.and_eq_true, beq_iff_eq] at c
  exact exc_get_args (X.keeps g) ⟨g _ _ he, rfl, rfl, g _ _ hd⟩ c.1.1.1.1.1.1.1.1 (findObj_data c.1.1.1.1.1.1.2 c.1.1.1.1.1.2 c.1.1.1.1.2 c.1.1.1.2) q
theorem strOk_of (X : K.In h) (he : h.get? e = some (excObj C (some d) ta)) (hd : h.get? d = some od) (c : clsB K C f = true) (tl : Tells prog w h f e t) : StrOk prog w h e t := by
  intro A s Q E a1 a3 a4 g q
  simp only [clsB, Bool.and_eq_true, beq_iff_eq] at c
  exact kso_call (od := some od) (units_ok (Nat.add_le_add_right a4 2) (by decide +kernel)) (X.keeps g) ⟨g _ _ he, rfl, rfl, g _ _ hd⟩ c.1.1.2 c.2 (tl _ _ _ _ a1 (Nat.le_trans a3 (by decide)) (Nat.le_trans (Nat.add_le_add_right a4 2) (by decide)) g fun h' u tk g' => q h' u tk g')
theorem repErr_of (X : K.In h) (he : h.get? e = some (excObj C (some d) ta)) (hd : h.get? d = some od) (c : clsB K C f = true) (tl : Tells prog w h f e t) (hl : t.length ≤ 1000000) : Rep prog w h (.ref e) t := by
  simp only [clsB, Bool.and_eq_true, beq_iff_eq] at c
  exact rep_inst (od := some od) X ⟨he, rfl, rfl, hd⟩ c.1.2 c.2 tl hl
theorem str_use (c : StrOk prog w h₀ e t) (F : Fr h₀ L s.heap m) (N : News h₀ L s.heap news) (h1 : A.handled = none) (h3 : A.depth ≤ 850) (h4 : A.units ≤ 4200)
    (q : ∀ h' u tk, Fr h₀ L h' m → News h₀ L h' news → Q (.str t u) { s with heap := h', toks := tk }) : wpAny (model prog w) A (call (.type "str") [.ref e]) Q E s :=
  c A s Q E h1 h3 h4 F.keep fun h' u tk g => q h' u tk (fr_grow F g) (news_grow N g)
end
end Mine
end
section
open PySem PySem.W PySem.Calls PyProof.Rows
set_option Elab.async false
set_option maxRecDepth 100000
set_option maxHeartbeats 4000000
namespace Mine
/-- the seven values of law 09 -/
inductive ShV (h : Heap) (one other : Addr) : Int → Value → Prop
  | s0 : ShV h one other 0 (.ref one)
  | s1 : ShV h one other 1 (.ref other)
  | s2 (t : Tok) : ShV h one other 2 (.str (Str.ofString "<UNNAMED_SECTION>") t)
  | s3 (a : Addr) : IsTup h a #[.ref one] → ShV h one other 3 (.ref a)
  | s4 (a : Addr) : h.IsList a #[.ref other, .ref one] → ShV h one other 4 (.ref a)
  | s5 (t : Tok) : ShV h one other 5 (.str (Str.ofString "k") t)
  | s6 (a : Addr) (t : Tok) : IsTup h a #[.ref other, .str (Str.ofString "k") t] → ShV h one other 6 (.ref a)
def V09 (one other A3 A4 A6 : Addr) (k : Int) (v : Value) : Prop := (k = ((0 : Nat) : Int) ∧ v = .ref one) ∨ (k = ((1 : Nat) : Int) ∧ v = .ref other) ∨ (k = ((2 : Nat) : Int) ∧ ∃ t, v = .str (Str.ofString "<UNNAMED_SECTION>") t) ∨ (k = ((3 : Nat) : Int) ∧ v = .ref A3) ∨ (k = ((4 : Nat) : Int) ∧ v = .ref A4) ∨ (k = ((5 : Nat) : Int) ∧ ∃ t, v = .str (Str.ofString "k") t) ∨ (k = ((6 : Nat) : Int) ∧ v = .ref A6)
/-- what _law_value has made and gives back -/
structure ValC (h h' : Heap) (one other : Addr) (k : Int) (v : Value) (A3 A4 A6 : Addr) (t6 : Tok) : Prop where
  h3 : h'.get? A3 = some (tupObj [.ref one])
  h4 : h'.get? A4 = some (listOf #[.ref other, .ref one] 0)
  h6 : h'.get? A6 = some (tupObj [.ref other, .str (Str.ofString "k") t6])
  n3 : h.get? A3 = none
  n4 : h.get? A4 = none
  n6 : h.get? A6 = none
  is : V09 one other A3 A4 A6 k v
theorem valc_of {h₀ h' : Heap} {L : Addr} {news : List (Addr × Obj)} {one other : Addr} {k : Int} {v : Value} {A3 A4 A6 : Addr} {t6 : Tok} (N : News h₀ L h' news) (m3 : (A3, tupObj [.ref one]) ∈ news) (m4 : (A4, listOf #[.ref other, .ref one] 0) ∈ news) (m6 : (A6, tupObj [.ref other, .str (Str.ofString "k") t6]) ∈ news)
    (is : V09 one other A3 A4 A6 k v) : ValC h₀ h' one other k v A3 A4 A6 t6 := ⟨(N _ m3).1, (N _ m4).1, (N _ m6).1, (N _ m3).2.2, (N _ m4).2.2, (N _ m6).2.2, is⟩
theorem list_grow {h h' : Heap} {b : Addr} {its : Array Value} (g : Grow h h') (x : h.IsList b its) : h'.IsList b its := by
  obtain ⟨o, a, c⟩ := x
  exact ⟨o, g _ _ a, c⟩
theorem ShV.grow {h h' : Heap} {one other : Addr} {k : Int} {v : Value} (x : ShV h one other k v) (g : Grow h h') : ShV h' one other k v := by
  cases x with
  | s0 => exact .s0
  | s1 => exact .s1
  | s2 t => exact .s2 t
  | s3 a x => exact .s3 a (tup_grow g x)
  | s4 a x => exact .s4 a (list_grow g x)
  | s5 t => exact .s5 t
  | s6 a t x => exact .s6 a t (tup_grow g x)
section
variable {prog : Program} {w : World} {A : Around} {E : Value → Shared → Prop} {s : Shared}
theorem item_at {value slice : Expr} {l : Addr} {items : List Value} {k : Int} {u : Tok} {Q : Value → Shared → Prop} (hl : s.heap.IsList l items.toArray) (h0 : 0 ≤ k) (hk : k < (items.length : Int)) (hz : items.length ≤ 1000)
    (h : ∀ (i : Nat) (x : Value), items[i]? = some x → k = (i : Int) → Q x s) (hs : subscripted slice false (.ref l) (.int k u) = operate [.ref l, .int k u] (getItem (.ref l) (.int k u)) := by with_unfolding_all rfl) :
    wpAny (model prog w) A (subscriptTail value slice (.ref l) (.int k u)) Q E s := by
  have hT := hl.typeIs
  have hkn : k.toNat < items.length := by omega
  unfold subscriptTail
  refine wpAny_bind ?_
  rw [getitemInPython_of_ne hT.not_modules]
  refine wpAny_bind (wpAny_specialOf hT slot_list_getitem.lookup ?_)
  have fin : wpAny (model prog w) A (subscripted slice false (.ref l) (.int k u)) (fun r s₃ => wpAny (model prog w) A (letTemporaryGo value (.ref l) r >>= fun _ => pure r) Q E s₃) E s := by
    rw [hs]
    refine wpAny_operating (wpAny_getItem_list hl h0 (by omega) (x := items[k.toNat]) (by simp [hkn]) ?_)
    exact wpAny_bind (wpAny_letTemporaryGo (wpAny_pure (h k.toNat _ (by simp [hkn]) (by omega))))
  first
    | exact wpAny_pure (wpAny_bind fin)
    | exact wpAny_bind (wpAny_pure (wpAny_bind fin))
    | exact wpAny_bind fin
end
end Mine
end
section
open PySem PySem.W PySem.Calls PyProof.Rows
set_option Elab.async false
set_option maxRecDepth 100000
set_option maxHeartbeats 4000000
namespace Mine
theorem fig_two : ∀ n : Fin 90, fig2 ((n.val : Int) + 10) = Str.ofString (toString ((n.val : Int) + 10)) := by decide +kernel
theorem fig_txt {n : Int} (h0 : 10 ≤ n) (h1 : n ≤ 99) : fig2 n = Str.ofString (toString n) := by
  have := fig_two ⟨(n - 10).toNat, by omega⟩
  have e : (((n - 10).toNat : Nat) : Int) + 10 = n := by omega
  simp only [e] at this
  exact this
theorem lit_s2 : Str.ofString "]: section " = Str.ofString "]" ++ Str.ofString ": section " := by decide +kernel
theorem tx9c {ta tb : Str} {n : Int} (h0 : 10 ≤ n) (h1 : n ≤ 99) : Txt.join (Str.ofString "") [Str.ofString "While reading from ", tb, lineText n, Str.ofString ": section ", ta, Str.ofString " already exists"] =
    Str.ofString "While reading from " ++ tb ++ Str.ofString " [line " ++ Str.ofString (toString n) ++ Str.ofString "]: section " ++ (ta ++ Str.ofString " already exists") := by
  rw [lit_s2, ← fig_txt h0 h1]
  simp only [tjc, tj1, sapp, lineText]
theorem tx9d {ta tb : Str} : Txt.join (Str.ofString "") [Str.ofString "Option ", tb, Str.ofString " in section ", ta, Str.ofString " already exists"] = Str.ofString "Option " ++ tb ++ Str.ofString " in section " ++ (ta ++ Str.ofString " already exists") := by
  simp only [tjc, tj1, sapp]
theorem le1 : Str.ofString "Bad value substitution: option " = Str.ofString "Bad value substitution: " ++ Str.ofString "option " := by decide +kernel
theorem le2 : Str.ofString "'r' which is not a valid option name. Raw value: 'v'" = reprText (Str.ofString "r") ++ (Str.ofString " which is not a valid option name. Raw value: " ++ reprText (Str.ofString "v")) := by decide +kernel
theorem lf1 : Str.ofString "Recursion limit exceeded in value substitution: option " = Str.ofString "Recursion limit exceeded in value substitution: " ++ Str.ofString "option " := by decide +kernel
theorem lf2 : Str.ofString " contains an interpolation key which cannot be substituted in " ++ (Str.ofString "10" ++ (Str.ofString " steps. Raw value: " ++ reprText (Str.ofString "v"))) = Str.ofString " contains an interpolation key " ++ Str.ofString "which cannot be substituted in 10 steps. Raw value: 'v'" := by decide +kernel
theorem tx9e {ta tb : Str} : Str.ofString "Bad value substitution: option " ++ tb ++ Str.ofString " in section " ++ ta ++ Str.ofString " contains an interpolation key " ++ reprText (Str.ofString "r") ++ Str.ofString " which is not a valid option name. Raw value: " ++ reprText (Str.ofString "v") =
    Str.ofString "Bad value substitution: " ++ (Str.ofString "option " ++ tb ++ Str.ofString " in section " ++ ta ++ Str.ofString " contains an interpolation key ") ++ Str.ofString "'r' which is not a valid option name. Raw value: 'v'" := by
  rw [le1, le2]
  simp only [sapp]
theorem tx9f {ta tb : Str} : Str.ofString "Recursion limit exceeded in value substitution: option " ++ tb ++ Str.ofString " in section " ++ ta ++ Str.ofString " contains an interpolation key which cannot be substituted in " ++ Str.ofString "10" ++ Str.ofString " steps. Raw value: " ++ reprText (Str.ofString "v") =
    Str.ofString "Recursion limit exceeded in value substitution: " ++ (Str.ofString "option " ++ tb ++ Str.ofString " in section " ++ ta ++ Str.ofString " contains an interpolation key ") ++ Str.ofString "which cannot be substituted in 10 steps. Raw value: 'v'" := by
  rw [lf1]
  simp only [sapp]
  rw [lf2]
end Mine
end
section
open PySem PySem.W PySem.Calls PyProof.Rows
set_option Elab.async false
set_option maxRecDepth 100000
set_option maxHeartbeats 4000000
namespace Mine
section
variable {prog : Program} {w : World} {A : Around} {E : Value → Shared → Prop} {s : Shared} {env : Env} {h₀ : Heap} {x : Str} {body : List Stmt} {Q : Flow → Shared → Prop}
/-- a loop over whole numbers that keeps the ledger and every name that it does not store -/
theorem loopK {l : Addr} {vs : List Value} {ns : List Int} {m₀ : Str → Option Value} {news : List (Addr × Obj)} (stored : List Str)
    (hh : A.handled = none) (hi : IntsAre vs ns) (F : Fr h₀ env.locals s.heap m₀) (N : News h₀ env.locals s.heap ((l, listOf vs.toArray 0) :: news))
    (turn : ∀ pre post n t (u : Str → Option Value) h tk own, ns = pre ++ n :: post → n ∈ ns →
      Fr h₀ env.locals h (fun y => if y = x then some (.int n t) else if stored.contains y then u y else m₀ y) → News h₀ env.locals h (((l, listOf vs.toArray 0) :: news) ++ own) →
      wpAny (model prog w) A (execs body env) (InvPostN h₀ env.locals (KstS (σ := Unit) (fun _ => (l, listOf vs.toArray 0) :: news) (fun _ => []) (fun _ => True) x stored m₀ (fun _ _ => True) (pre ++ [n])) own (((l, listOf vs.toArray 0) :: news).map (·.1)) { s with heap := h, toks := tk } Q) E { s with heap := h, toks := tk })
    (done : ∀ (m : Str → Option Value) h tk, Fr h₀ env.locals h m → Q .next { s with heap := h, toks := tk }) :
    wpAny (model prog w) A (pyIter (.ref l)) (fun it s₂ => LoopAtV prog w A h₀ env x body Q E it s₂) E s :=
  kst_listL (nn := 0) (σ := Unit) (fun _ => (l, listOf vs.toArray 0) :: news) (fun _ => []) (fun _ => True) stored (fun _ _ => True) () hh (fun _ => List.Mem.head _) hi F N trivial
    (List.forall_mem_nil _) trivial (fun c pre post n t u h tk own e1 e2 _ _ i f nw => turn pre post n t u h tk own e1 e2 f nw) (fun c u h tk _ _ f _ => done _ h tk f)
theorem turnK_end {l : Addr} {vs : List Value} {m₀ m' : Str → Option Value} {news news' own : List (Addr × Obj)} {stored : List Str} {L : Addr} {pre : List Int} {h' : Heap} {tk : Nat} (F : Fr h₀ L h' m') (N : News h₀ L h' news') (hsub : ∀ p ∈ ((l, listOf vs.toArray 0) :: news) ++ own, p ∈ news')
    (hm : ∀ z, z ≠ x → stored.contains z = false → m' z = m₀ z) :
    InvPostN h₀ L (KstS (σ := Unit) (fun _ => (l, listOf vs.toArray 0) :: news) (fun _ => []) (fun _ => True) x stored m₀ (fun _ _ => True) pre) own (((l, listOf vs.toArray 0) :: news).map (·.1)) s Q .next { s with heap := h', toks := tk } :=
  ⟨h', tk, m', news', _, rfl, F, N, fun p hp => hsub p (List.mem_append_left _ hp), fun p hp => hsub p (List.mem_append_right _ hp), rfl, (), rfl, trivial, List.forall_mem_nil _, fun z hz _ hs => hm z hz hs, trivial⟩
/-- a statement that leaves frame and ledger as they are -/
def JoinedS (h₀ : Heap) (L : Addr) (m : Str → Option Value) (news : List (Addr × Obj)) (s : Shared) (fl : Flow) (s' : Shared) : Prop := fl = .next ∧ ∃ h' tk, s' = { s with heap := h', toks := tk } ∧ Fr h₀ L h' m ∧ News h₀ L h' news
theorem joinS_ {M : Model} {L : Addr} {m : Str → Option Value} {news : List (Addr × Obj)} {t : Sem Flow} (F : Fr h₀ L s.heap m) (N : News h₀ L s.heap news) (h1 : wpAny M A t (JoinedS h₀ L m news s) E s)
    (h2 : ∀ h' tk, Fr h₀ L h' m → News h₀ L h' news → Q .next { s with heap := h', toks := tk }) : wpAny M A t Q E s :=
  wpAny_mono h1 (fun _ _ ⟨e, h', tk, e', F', N'⟩ => by subst e; subst e'; exact h2 h' tk F' N') fun _ _ z => z
theorem joinedS_ {L : Addr} {m : Str → Option Value} {news news' : List (Addr × Obj)} {h' : Heap} {tk : Nat} (F : Fr h₀ L h' m) (N : News h₀ L h' news') (hs : ∀ q ∈ news, q ∈ news') : JoinedS h₀ L m news s .next { s with heap := h', toks := tk } := ⟨rfl, h', tk, rfl, F, fun q hq => N q (hs q hq)⟩
theorem joinQ_ {M : Model} {L : Addr} {m : Str → Option Value} {news : List (Addr × Obj)} {t : Sem Flow} (F : Fr h₀ L s.heap m) (N : News h₀ L s.heap news)
    (h1 : ∀ Q' : Flow → Shared → Prop, (∀ h' tk, Fr h₀ L h' m → News h₀ L h' news → Q' .next { s with heap := h', toks := tk }) → wpAny M A t Q' E s)
    (h2 : ∀ h' tk, Fr h₀ L h' m → News h₀ L h' news → Q .next { s with heap := h', toks := tk }) : wpAny M A t Q E s := h1 Q h2
theorem post_gen {M : Model} {t : Sem Flow} (h : ∀ Q' : Flow → Shared → Prop, (∀ f s', Q f s' → Q' f s') → wpAny M A t Q' E s) : wpAny M A t Q E s := h Q fun _ _ z => z
end
end Mine
end
section
open PySem PySem.W PySem.Calls PyProof.Rows
set_option Elab.async false
namespace Mine
theorem updF_to {d : Addr} {o : Obj} : ∀ {l : List (Addr × Obj)} {g : Obj → List (Addr × Obj)}, UpdF d o l g → ∀ o', Upd d o o' l (g o')
  | _, _, .head h, _ => .head h
  | _, _, .tail h r, o' => .tail h (updF_to r o')
theorem updF_on {d : Addr} {o : Obj} : ∀ {l : List (Addr × Obj)} {g : Obj → List (Addr × Obj)}, UpdF d o l g → ∀ o' o'', Upd d o' o'' (g o') (g o'')
  | _, _, .head h, _, _ => .head h
  | _, _, .tail h r, o', o'' => .tail h (updF_on r o' o'')
theorem updF_mem {d : Addr} {o : Obj} : ∀ {l : List (Addr × Obj)} {g : Obj → List (Addr × Obj)}, UpdF d o l g → (d, o) ∈ l ∧ ∀ o', (d, o') ∈ g o' ∧ ∀ p ∈ g o', p.1 ∈ l.map (·.1)
  | _, _, .head h => ⟨.head _, fun o' => ⟨.head _, fun p hp => by
      rcases List.mem_cons.mp hp with rfl | hp
      · exact .head _
      · exact .tail _ (List.mem_map_of_mem hp)⟩⟩
  | _, _, .tail h r => ⟨.tail _ (updF_mem r).1, fun o' => ⟨.tail _ ((updF_mem r).2 o').1, fun p hp => by
      rcases List.mem_cons.mp hp with rfl | hp
      · exact .head _
      · exact .tail _ (((updF_mem r).2 o').2 p hp)⟩⟩
theorem updF_lt {d b : Addr} {o o' : Obj} {l : List (Addr × Obj)} {g : Obj → List (Addr × Obj)} (U : UpdF d o l g) (h : ∀ p ∈ l, p.1 < b) : ∀ p ∈ g o', p.1 < b := fun p hp => by
  obtain ⟨q, hq, e⟩ := List.mem_map.mp (((updF_mem U).2 o').2 p hp)
  exact e ▸ h q hq
theorem updF_ne {d b : Addr} {o o' : Obj} {l : List (Addr × Obj)} {g : Obj → List (Addr × Obj)} (U : UpdF d o l g) (h : ∀ p ∈ l, p.1 ≠ b) : ∀ p ∈ g o', p.1 ≠ b := fun p hp => by
  obtain ⟨q, hq, e⟩ := List.mem_map.mp (((updF_mem U).2 o').2 p hp)
  exact e ▸ h q hq
end Mine
namespace Mine
def G3 (_ : Array GenState) (_ : Drawn) (_ : OsState) : Prop := True
theorem tok_gen {M : Model} {α : Type} {A : Around} {t : Sem α} {Q : α → Shared → Prop} {E : Value → Shared → Prop} {h : Heap} {g : Array GenState} {d : Drawn} {o : OsState} {tk : Nat} (_ : G3 g d o) (H : ∀ tk, wpAny M A t Q E ⟨h, g, d, tk, o⟩) : wpAny M A t Q E ⟨h, g, d, tk, o⟩ := H tk
end Mine
end
section
open PySem PySem.W PySem.W.X PySem.W.ZRun PyProof.Rows
set_option Elab.async false
set_option maxRecDepth 100000
set_option maxHeartbeats 0
namespace Mine
local macro_rules | `(tactic| k_head) => `(tactic| z_head)
open_top hz for PySem.Challenge.rw_dm0028_09
end Mine
end
section
open PySem
set_option maxRecDepth 100000
namespace Mine
theorem sx0 : Str.ofString " [line " = ⟨#[32, 91, 108, 105, 110, 101, 32]⟩ := rfl
theorem sx1 : Str.ofString " [line {0:2d}]" = ⟨#[32, 91, 108, 105, 110, 101, 32, 123, 48, 58, 50, 100, 125, 93]⟩ := rfl
theorem sx2 : Str.ofString " already exists" = ⟨#[32, 97, 108, 114, 101, 97, 100, 121, 32, 101, 120, 105, 115, 116, 115]⟩ := rfl
theorem sx3 : Str.ofString " contains an interpolation key " = ⟨#[32, 99, 111, 110, 116, 97, 105, 110, 115, 32, 97, 110, 32, 105, 110, 116, 101, 114, 112, 111, 108, 97, 116, 105, 111, 110, 32, 107, 101, 121, 32]⟩ := rfl
theorem sx4 : Str.ofString " in section " = ⟨#[32, 105, 110, 32, 115, 101, 99, 116, 105, 111, 110, 32]⟩ := rfl
theorem sx5 : Str.ofString " in section: " = ⟨#[32, 105, 110, 32, 115, 101, 99, 116, 105, 111, 110, 58, 32]⟩ := rfl
theorem sx6 : Str.ofString "'" = ⟨#[39]⟩ := rfl
theorem sx7 : Str.ofString "'r' which is not a valid option name. Raw value: 'v'" = ⟨#[39, 114, 39, 32, 119, 104, 105, 99, 104, 32, 105, 115, 32, 110, 111, 116, 32, 97, 32, 118, 97, 108, 105, 100, 32, 111, 112, 116, 105, 111, 110, 32, 110, 97, 109, 101, 46, 32, 82, 97, 119, 32, 118, 97, 108, 117, 101, 58, 32, 39, 118, 39]⟩ := rfl
theorem sx8 : Str.ofString "(" = ⟨#[40]⟩ := rfl
theorem sx9 : Str.ofString ")" = ⟨#[41]⟩ := rfl
theorem sx10 : Str.ofString ", " = ⟨#[44, 32]⟩ := rfl
theorem sx11 : Str.ofString ",)" = ⟨#[44, 41]⟩ := rfl
theorem sx12 : Str.ofString ".0" = ⟨#[46, 48]⟩ := rfl
theorem sx13 : Str.ofString ": option " = ⟨#[58, 32, 111, 112, 116, 105, 111, 110, 32]⟩ := rfl
theorem sx14 : Str.ofString ": section " = ⟨#[58, 32, 115, 101, 99, 116, 105, 111, 110, 32]⟩ := rfl
theorem sx15 : Str.ofString "<UNNAMED_SECTION>" = ⟨#[60, 85, 78, 78, 65, 77, 69, 68, 95, 83, 69, 67, 84, 73, 79, 78, 62]⟩ := rfl
theorem sx16 : Str.ofString "Bad value substitution: " = ⟨#[66, 97, 100, 32, 118, 97, 108, 117, 101, 32, 115, 117, 98, 115, 116, 105, 116, 117, 116, 105, 111, 110, 58, 32]⟩ := rfl
theorem sx17 : Str.ofString "Bad value substitution: option {!r} in section {!r} contains an interpolation key {!r} which is not a valid option name. Raw value: {!r}" = ⟨#[66, 97, 100, 32, 118, 97, 108, 117, 101, 32, 115, 117, 98, 115, 116, 105, 116, 117, 116, 105, 111, 110, 58, 32, 111, 112, 116, 105, 111, 110, 32, 123, 33, 114, 125, 32, 105, 110, 32, 115, 101, 99, 116, 105, 111, 110, 32, 123, 33, 114, 125, 32, 99, 111, 110, 116, 97, 105, 110, 115, 32, 97, 110, 32, 105, 110, 116, 101, 114, 112, 111, 108, 97, 116, 105, 111, 110, 32, 107, 101, 121, 32, 123, 33, 114, 125, 32, 119, 104, 105, 99, 104, 32, 105, 115, 32, 110, 111, 116, 32, 97, 32, 118, 97, 108, 105, 100, 32, 111, 112, 116, 105, 111, 110, 32, 110, 97, 109, 101, 46, 32, 82, 97, 119, 32, 118, 97, 108, 117, 101, 58, 32, 123, 33, 114, 125]⟩ := rfl
theorem sx18 : Str.ofString "DuplicateOptionError" = ⟨#[68, 117, 112, 108, 105, 99, 97, 116, 101, 79, 112, 116, 105, 111, 110, 69, 114, 114, 111, 114]⟩ := rfl
theorem sx19 : Str.ofString "DuplicateOptionError.__init__" = ⟨#[68, 117, 112, 108, 105, 99, 97, 116, 101, 79, 112, 116, 105, 111, 110, 69, 114, 114, 111, 114, 46, 95, 95, 105, 110, 105, 116, 95, 95]⟩ := rfl
theorem sx20 : Str.ofString "DuplicateSectionError" = ⟨#[68, 117, 112, 108, 105, 99, 97, 116, 101, 83, 101, 99, 116, 105, 111, 110, 69, 114, 114, 111, 114]⟩ := rfl
theorem sx21 : Str.ofString "DuplicateSectionError.__init__" = ⟨#[68, 117, 112, 108, 105, 99, 97, 116, 101, 83, 101, 99, 116, 105, 111, 110, 69, 114, 114, 111, 114, 46, 95, 95, 105, 110, 105, 116, 95, 95]⟩ := rfl
theorem sx22 : Str.ofString "Error" = ⟨#[69, 114, 114, 111, 114]⟩ := rfl
theorem sx23 : Str.ofString "Error.__init__" = ⟨#[69, 114, 114, 111, 114, 46, 95, 95, 105, 110, 105, 116, 95, 95]⟩ := rfl
theorem sx24 : Str.ofString "Error.__repr__" = ⟨#[69, 114, 114, 111, 114, 46, 95, 95, 114, 101, 112, 114, 95, 95]⟩ := rfl
theorem sx25 : Str.ofString "Exception" = ⟨#[69, 120, 99, 101, 112, 116, 105, 111, 110]⟩ := rfl
theorem sx26 : Str.ofString "InterpolationDepthError" = ⟨#[73, 110, 116, 101, 114, 112, 111, 108, 97, 116, 105, 111, 110, 68, 101, 112, 116, 104, 69, 114, 114, 111, 114]⟩ := rfl
theorem sx27 : Str.ofString "InterpolationDepthError.__init__" = ⟨#[73, 110, 116, 101, 114, 112, 111, 108, 97, 116, 105, 111, 110, 68, 101, 112, 116, 104, 69, 114, 114, 111, 114, 46, 95, 95, 105, 110, 105, 116, 95, 95]⟩ := rfl
theorem sx28 : Str.ofString "InterpolationError" = ⟨#[73, 110, 116, 101, 114, 112, 111, 108, 97, 116, 105, 111, 110, 69, 114, 114, 111, 114]⟩ := rfl
theorem sx29 : Str.ofString "InterpolationError.__init__" = ⟨#[73, 110, 116, 101, 114, 112, 111, 108, 97, 116, 105, 111, 110, 69, 114, 114, 111, 114, 46, 95, 95, 105, 110, 105, 116, 95, 95]⟩ := rfl
theorem sx30 : Str.ofString "InterpolationMissingOptionError" = ⟨#[73, 110, 116, 101, 114, 112, 111, 108, 97, 116, 105, 111, 110, 77, 105, 115, 115, 105, 110, 103, 79, 112, 116, 105, 111, 110, 69, 114, 114, 111, 114]⟩ := rfl
theorem sx31 : Str.ofString "InterpolationMissingOptionError.__init__" = ⟨#[73, 110, 116, 101, 114, 112, 111, 108, 97, 116, 105, 111, 110, 77, 105, 115, 115, 105, 110, 103, 79, 112, 116, 105, 111, 110, 69, 114, 114, 111, 114, 46, 95, 95, 105, 110, 105, 116, 95, 95]⟩ := rfl
theorem sx32 : Str.ofString "MAX_INTERPOLATION_DEPTH" = ⟨#[77, 65, 88, 95, 73, 78, 84, 69, 82, 80, 79, 76, 65, 84, 73, 79, 78, 95, 68, 69, 80, 84, 72]⟩ := rfl
theorem sx33 : Str.ofString "No option " = ⟨#[78, 111, 32, 111, 112, 116, 105, 111, 110, 32]⟩ := rfl
theorem sx34 : Str.ofString "No option %r in section: %r" = ⟨#[78, 111, 32, 111, 112, 116, 105, 111, 110, 32, 37, 114, 32, 105, 110, 32, 115, 101, 99, 116, 105, 111, 110, 58, 32, 37, 114]⟩ := rfl
theorem sx35 : Str.ofString "No section: " = ⟨#[78, 111, 32, 115, 101, 99, 116, 105, 111, 110, 58, 32]⟩ := rfl
theorem sx36 : Str.ofString "No section: %r" = ⟨#[78, 111, 32, 115, 101, 99, 116, 105, 111, 110, 58, 32, 37, 114]⟩ := rfl
theorem sx37 : Str.ofString "NoOptionError" = ⟨#[78, 111, 79, 112, 116, 105, 111, 110, 69, 114, 114, 111, 114]⟩ := rfl
theorem sx38 : Str.ofString "NoOptionError.__init__" = ⟨#[78, 111, 79, 112, 116, 105, 111, 110, 69, 114, 114, 111, 114, 46, 95, 95, 105, 110, 105, 116, 95, 95]⟩ := rfl
theorem sx39 : Str.ofString "NoSectionError" = ⟨#[78, 111, 83, 101, 99, 116, 105, 111, 110, 69, 114, 114, 111, 114]⟩ := rfl
theorem sx40 : Str.ofString "NoSectionError.__init__" = ⟨#[78, 111, 83, 101, 99, 116, 105, 111, 110, 69, 114, 114, 111, 114, 46, 95, 95, 105, 110, 105, 116, 95, 95]⟩ := rfl
theorem sx41 : Str.ofString "Option " = ⟨#[79, 112, 116, 105, 111, 110, 32]⟩ := rfl
theorem sx42 : Str.ofString "Recursion limit exceeded in value substitution: " = ⟨#[82, 101, 99, 117, 114, 115, 105, 111, 110, 32, 108, 105, 109, 105, 116, 32, 101, 120, 99, 101, 101, 100, 101, 100, 32, 105, 110, 32, 118, 97, 108, 117, 101, 32, 115, 117, 98, 115, 116, 105, 116, 117, 116, 105, 111, 110, 58, 32]⟩ := rfl
theorem sx43 : Str.ofString "Recursion limit exceeded in value substitution: option {!r} in section {!r} contains an interpolation key which cannot be substituted in {} steps. Raw value: {!r}" = ⟨#[82, 101, 99, 117, 114, 115, 105, 111, 110, 32, 108, 105, 109, 105, 116, 32, 101, 120, 99, 101, 101, 100, 101, 100, 32, 105, 110, 32, 118, 97, 108, 117, 101, 32, 115, 117, 98, 115, 116, 105, 116, 117, 116, 105, 111, 110, 58, 32, 111, 112, 116, 105, 111, 110, 32, 123, 33, 114, 125, 32, 105, 110, 32, 115, 101, 99, 116, 105, 111, 110, 32, 123, 33, 114, 125, 32, 99, 111, 110, 116, 97, 105, 110, 115, 32, 97, 110, 32, 105, 110, 116, 101, 114, 112, 111, 108, 97, 116, 105, 111, 110, 32, 107, 101, 121, 32, 119, 104, 105, 99, 104, 32, 99, 97, 110, 110, 111, 116, 32, 98, 101, 32, 115, 117, 98, 115, 116, 105, 116, 117, 116, 101, 100, 32, 105, 110, 32, 123, 125, 32, 115, 116, 101, 112, 115, 46, 32, 82, 97, 119, 32, 118, 97, 108, 117, 101, 58, 32, 123, 33, 114, 125]⟩ := rfl
theorem sx44 : Str.ofString "Section " = ⟨#[83, 101, 99, 116, 105, 111, 110, 32]⟩ := rfl
theorem sx45 : Str.ofString "While reading from " = ⟨#[87, 104, 105, 108, 101, 32, 114, 101, 97, 100, 105, 110, 103, 32, 102, 114, 111, 109, 32]⟩ := rfl
theorem sx46 : Str.ofString "[" = ⟨#[91]⟩ := rfl
theorem sx47 : Str.ofString "]" = ⟨#[93]⟩ := rfl
theorem sx48 : Str.ofString "]: section " = ⟨#[93, 58, 32, 115, 101, 99, 116, 105, 111, 110, 32]⟩ := rfl
theorem sx49 : Str.ofString "_UnnamedSection" = ⟨#[95, 85, 110, 110, 97, 109, 101, 100, 83, 101, 99, 116, 105, 111, 110]⟩ := rfl
theorem sx50 : Str.ofString "_UnnamedSection.__repr__" = ⟨#[95, 85, 110, 110, 97, 109, 101, 100, 83, 101, 99, 116, 105, 111, 110, 46, 95, 95, 114, 101, 112, 114, 95, 95]⟩ := rfl
theorem sx51 : Str.ofString "__init__" = ⟨#[95, 95, 105, 110, 105, 116, 95, 95]⟩ := rfl
theorem sx52 : Str.ofString "__name__" = ⟨#[95, 95, 110, 97, 109, 101, 95, 95]⟩ := rfl
theorem sx53 : Str.ofString "__repr__" = ⟨#[95, 95, 114, 101, 112, 114, 95, 95]⟩ := rfl
theorem sx54 : Str.ofString "__str__" = ⟨#[95, 95, 115, 116, 114, 95, 95]⟩ := rfl
theorem sx55 : Str.ofString "_law_made" = ⟨#[95, 108, 97, 119, 95, 109, 97, 100, 101]⟩ := rfl
theorem sx56 : Str.ofString "_law_value" = ⟨#[95, 108, 97, 119, 95, 118, 97, 108, 117, 101]⟩ := rfl
theorem sx57 : Str.ofString "_law_written" = ⟨#[95, 108, 97, 119, 95, 119, 114, 105, 116, 116, 101, 110]⟩ := rfl
theorem sx58 : Str.ofString "a" = ⟨#[97]⟩ := rfl
theorem sx59 : Str.ofString "abs" = ⟨#[97, 98, 115]⟩ := rfl
theorem sx60 : Str.ofString "again" = ⟨#[97, 103, 97, 105, 110]⟩ := rfl
theorem sx61 : Str.ofString "append" = ⟨#[97, 112, 112, 101, 110, 100]⟩ := rfl
theorem sx62 : Str.ofString "args" = ⟨#[97, 114, 103, 115]⟩ := rfl
theorem sx63 : Str.ofString "b" = ⟨#[98]⟩ := rfl
theorem sx64 : Str.ofString "borne" = ⟨#[98, 111, 114, 110, 101]⟩ := rfl
theorem sx65 : Str.ofString "cpy313.configparser" = ⟨#[99, 112, 121, 51, 49, 51, 46, 99, 111, 110, 102, 105, 103, 112, 97, 114, 115, 101, 114]⟩ := rfl
theorem sx66 : Str.ofString "divmod" = ⟨#[100, 105, 118, 109, 111, 100]⟩ := rfl
theorem sx67 : Str.ofString "due" = ⟨#[100, 117, 101]⟩ := rfl
theorem sx68 : Str.ofString "err" = ⟨#[101, 114, 114]⟩ := rfl
theorem sx69 : Str.ofString "extend" = ⟨#[101, 120, 116, 101, 110, 100]⟩ := rfl
theorem sx70 : Str.ofString "fast" = ⟨#[102, 97, 115, 116]⟩ := rfl
theorem sx71 : Str.ofString "first" = ⟨#[102, 105, 114, 115, 116]⟩ := rfl
theorem sx72 : Str.ofString "format" = ⟨#[102, 111, 114, 109, 97, 116]⟩ := rfl
theorem sx73 : Str.ofString "head" = ⟨#[104, 101, 97, 100]⟩ := rfl
theorem sx74 : Str.ofString "insert" = ⟨#[105, 110, 115, 101, 114, 116]⟩ := rfl
theorem sx75 : Str.ofString "isinstance" = ⟨#[105, 115, 105, 110, 115, 116, 97, 110, 99, 101]⟩ := rfl
theorem sx76 : Str.ofString "join" = ⟨#[106, 111, 105, 110]⟩ := rfl
theorem sx77 : Str.ofString "k" = ⟨#[107]⟩ := rfl
theorem sx78 : Str.ofString "key" = ⟨#[107, 101, 121]⟩ := rfl
theorem sx79 : Str.ofString "kind" = ⟨#[107, 105, 110, 100]⟩ := rfl
theorem sx80 : Str.ofString "law" = ⟨#[108, 97, 119]⟩ := rfl
theorem sx81 : Str.ofString "law_dm0028_09" = ⟨#[108, 97, 119, 95, 100, 109, 48, 48, 50, 56, 95, 48, 57]⟩ := rfl
theorem sx82 : Str.ofString "len" = ⟨#[108, 101, 110]⟩ := rfl
theorem sx83 : Str.ofString "line" = ⟨#[108, 105, 110, 101]⟩ := rfl
theorem sx84 : Str.ofString "lineno" = ⟨#[108, 105, 110, 101, 110, 111]⟩ := rfl
theorem sx85 : Str.ofString "list" = ⟨#[108, 105, 115, 116]⟩ := rfl
theorem sx86 : Str.ofString "message" = ⟨#[109, 101, 115, 115, 97, 103, 101]⟩ := rfl
theorem sx87 : Str.ofString "msg" = ⟨#[109, 115, 103]⟩ := rfl
theorem sx88 : Str.ofString "name" = ⟨#[110, 97, 109, 101]⟩ := rfl
theorem sx89 : Str.ofString "number" = ⟨#[110, 117, 109, 98, 101, 114]⟩ := rfl
theorem sx90 : Str.ofString "one" = ⟨#[111, 110, 101]⟩ := rfl
theorem sx91 : Str.ofString "option" = ⟨#[111, 112, 116, 105, 111, 110]⟩ := rfl
theorem sx92 : Str.ofString "option " = ⟨#[111, 112, 116, 105, 111, 110, 32]⟩ := rfl
theorem sx93 : Str.ofString "other" = ⟨#[111, 116, 104, 101, 114]⟩ := rfl
theorem sx94 : Str.ofString "part" = ⟨#[112, 97, 114, 116]⟩ := rfl
theorem sx95 : Str.ofString "parts" = ⟨#[112, 97, 114, 116, 115]⟩ := rfl
theorem sx96 : Str.ofString "pick" = ⟨#[112, 105, 99, 107]⟩ := rfl
theorem sx97 : Str.ofString "picks" = ⟨#[112, 105, 99, 107, 115]⟩ := rfl
theorem sx98 : Str.ofString "r" = ⟨#[114]⟩ := rfl
theorem sx99 : Str.ofString "rawval" = ⟨#[114, 97, 119, 118, 97, 108]⟩ := rfl
theorem sx100 : Str.ofString "reference" = ⟨#[114, 101, 102, 101, 114, 101, 110, 99, 101]⟩ := rfl
theorem sx101 : Str.ofString "repr" = ⟨#[114, 101, 112, 114]⟩ := rfl
theorem sx102 : Str.ofString "rest" = ⟨#[114, 101, 115, 116]⟩ := rfl
theorem sx103 : Str.ofString "script" = ⟨#[115, 99, 114, 105, 112, 116]⟩ := rfl
theorem sx104 : Str.ofString "second" = ⟨#[115, 101, 99, 111, 110, 100]⟩ := rfl
theorem sx105 : Str.ofString "section" = ⟨#[115, 101, 99, 116, 105, 111, 110]⟩ := rfl
theorem sx106 : Str.ofString "self" = ⟨#[115, 101, 108, 102]⟩ := rfl
theorem sx107 : Str.ofString "source" = ⟨#[115, 111, 117, 114, 99, 101]⟩ := rfl
theorem sx108 : Str.ofString "str" = ⟨#[115, 116, 114]⟩ := rfl
theorem sx109 : Str.ofString "tail" = ⟨#[116, 97, 105, 108]⟩ := rfl
theorem sx110 : Str.ofString "v" = ⟨#[118]⟩ := rfl
theorem sx111 : Str.ofString "value" = ⟨#[118, 97, 108, 117, 101]⟩ := rfl
theorem sx112 : Str.ofString "which cannot be substituted in 10 steps. Raw value: 'v'" = ⟨#[119, 104, 105, 99, 104, 32, 99, 97, 110, 110, 111, 116, 32, 98, 101, 32, 115, 117, 98, 115, 116, 105, 116, 117, 116, 101, 100, 32, 105, 110, 32, 49, 48, 32, 115, 116, 101, 112, 115, 46, 32, 82, 97, 119, 32, 118, 97, 108, 117, 101, 58, 32, 39, 118, 39]⟩ := rfl
theorem sx113 : Str.ofString "x" = ⟨#[120]⟩ := rfl
end Mine
end
section
open PySem PySem.W PySem.W.X PySem.Calls PyProof.Rows PySem.W.ZRun
set_option maxRecDepth 100000
set_option maxHeartbeats 8000000
set_option linter.unusedVariables false
set_option linter.unusedSimpArgs false
namespace Mine
local macro_rules | `(tactic| walk_at $s:str) => `(tactic| k_extra $s)
local macro_rules | `(tactic| k_ne) => `(tactic| (refine neN ?_; (try dsimp only); k_extra "ne"))
section
theorem layIni091 : True := by
  k_with_none
  k_with "ne" => (with_reducible (first | exact ns1 | exact ns2 | exact qlt (by assumption) | exact qgt (by assumption) | exact qne (by assumption) | exact qen (by assumption) | exact rlt (by assumption) | exact rgt (by assumption) | exact rne (by assumption) | exact ren (by assumption) | exact qlt (And.right (by assumption)) | exact qgt (And.right (by assumption)) | exact qne (And.right (by assumption)) | exact qen (And.right (by assumption)) | exact rlt (And.right (by assumption)) | exact rgt (And.right (by assumption)) | exact rne (And.right (by assumption)) | exact ren (And.right (by assumption)) | exact qlt (And.right (And.right (by assumption))) | exact qgt (And.right (And.right (by assumption))) | exact qne (And.right (And.right (by assumption))) | exact qen (And.right (And.right (by assumption))) | exact rlt (And.right (And.right (by assumption))) | exact rgt (And.right (And.right (by assumption))) | exact rne (And.right (And.right (by assumption))) | exact ren (And.right (And.right (by assumption))) | exact qlt (And.right (And.right (And.right (by assumption)))) | exact qgt (And.right (And.right (And.right (by assumption)))) | exact qne (And.right (And.right (And.right (by assumption)))) | exact qen (And.right (And.right (And.right (by assumption)))) | exact rlt (And.right (And.right (And.right (by assumption)))) | exact rgt (And.right (And.right (And.right (by assumption)))) | exact rne (And.right (And.right (And.right (by assumption)))) | exact ren (And.right (And.right (And.right (by assumption)))) | exact qlt (And.right (And.right (And.right (And.right (by assumption))))) | exact qgt (And.right (And.right (And.right (And.right (by assumption))))) | exact qne (And.right (And.right (And.right (And.right (by assumption))))) | exact qen (And.right (And.right (And.right (And.right (by assumption))))) | exact rlt (And.right (And.right (And.right (And.right (by assumption))))) | exact rgt (And.right (And.right (And.right (And.right (by assumption))))) | exact rne (And.right (And.right (And.right (And.right (by assumption))))) | exact ren (And.right (And.right (And.right (And.right (by assumption))))) | exact qlt (And.right (And.right (And.right (And.right (And.right (by assumption)))))) | exact qgt (And.right (And.right (And.right (And.right (And.right (by assumption)))))) | exact qne (And.right (And.right (And.right (And.right (And.right (by assumption)))))) | exact qen (And.right (And.right (And.right (And.right (And.right (by assumption)))))) | exact rlt (And.right (And.right (And.right (And.right (And.right (by assumption)))))) | exact rgt (And.right (And.right (And.right (And.right (And.right (by assumption)))))) | exact rne (And.right (And.right (And.right (And.right (And.right (by assumption)))))) | exact ren (And.right (And.right (And.right (And.right (And.right (by assumption)))))) | exact qlt (And.right (And.right (And.right (And.right (And.right (And.right (by assumption))))))) | exact qgt (And.right (And.right (And.right (And.right (And.right (And.right (by assumption))))))) | exact qne (And.right (And.right (And.right (And.right (And.right (And.right (by assumption))))))) | exact qen (And.right (And.right (And.right (And.right (And.right (And.right (by assumption))))))) | exact rlt (And.right (And.right (And.right (And.right (And.right (And.right (by assumption))))))) | exact rgt (And.right (And.right (And.right (And.right (And.right (And.right (by assumption))))))) | exact rne (And.right (And.right (And.right (And.right (And.right (And.right (by assumption))))))) | exact ren (And.right (And.right (And.right (And.right (And.right (And.right (by assumption))))))) | exact qlt (And.right (And.right (And.right (And.right (And.right (And.right (And.right (by assumption)))))))) | exact qgt (And.right (And.right (And.right (And.right (And.right (And.right (And.right (by assumption)))))))) | exact qne (And.right (And.right (And.right (And.right (And.right (And.right (And.right (by assumption)))))))) | exact qen (And.right (And.right (And.right (And.right (And.right (And.right (And.right (by assumption)))))))) | exact rlt (And.right (And.right (And.right (And.right (And.right (And.right (And.right (by assumption)))))))) | exact rgt (And.right (And.right (And.right (And.right (And.right (And.right (And.right (by assumption)))))))) | exact rne (And.right (And.right (And.right (And.right (And.right (And.right (And.right (by assumption)))))))) | exact ren (And.right (And.right (And.right (And.right (And.right (And.right (And.right (by assumption)))))))) | exact qlt (And.right (And.right (And.right (And.right (And.right (And.right (And.right (And.right (by assumption))))))))) | exact qgt (And.right (And.right (And.right (And.right (And.right (And.right (And.right (And.right (by assumption))))))))) | exact qne (And.right (And.right (And.right (And.right (And.right (And.right (And.right (And.right (by assumption))))))))) | exact qen (And.right (And.right (And.right (And.right (And.right (And.right (And.right (And.right (by assumption))))))))) | exact rlt (And.right (And.right (And.right (And.right (And.right (And.right (And.right (And.right (by assumption))))))))) | exact rgt (And.right (And.right (And.right (And.right (And.right (And.right (And.right (And.right (by assumption))))))))) | exact rne (And.right (And.right (And.right (And.right (And.right (And.right (And.right (And.right (by assumption))))))))) | exact ren (And.right (And.right (And.right (And.right (And.right (And.right (And.right (And.right (by assumption))))))))) | exact qlt (And.right (And.right (And.right (And.right (And.right (And.right (And.right (And.right (And.right (by assumption)))))))))) | exact qgt (And.right (And.right (And.right (And.right (And.right (And.right (And.right (And.right (And.right (by assumption)))))))))) | exact qne (And.right (And.right (And.right (And.right (And.right (And.right (And.right (And.right (And.right (by assumption)))))))))) | exact qen (And.right (And.right (And.right (And.right (And.right (And.right (And.right (And.right (And.right (by assumption)))))))))) | exact rlt (And.right (And.right (And.right (And.right (And.right (And.right (And.right (And.right (And.right (by assumption)))))))))) | exact rgt (And.right (And.right (And.right (And.right (And.right (And.right (And.right (And.right (And.right (by assumption)))))))))) | exact rne (And.right (And.right (And.right (And.right (And.right (And.right (And.right (And.right (And.right (by assumption)))))))))) | exact ren (And.right (And.right (And.right (And.right (And.right (And.right (And.right (And.right (And.right (by assumption)))))))))) | exact qlt (And.right (And.right (And.right (And.right (And.right (And.right (And.right (And.right (And.right (And.right (by assumption))))))))))) | exact qgt (And.right (And.right (And.right (And.right (And.right (And.right (And.right (And.right (And.right (And.right (by assumption))))))))))) | exact qne (And.right (And.right (And.right (And.right (And.right (And.right (And.right (And.right (And.right (And.right (by assumption))))))))))) | exact qen (And.right (And.right (And.right (And.right (And.right (And.right (And.right (And.right (And.right (And.right (by assumption))))))))))) | exact rlt (And.right (And.right (And.right (And.right (And.right (And.right (And.right (And.right (And.right (And.right (by assumption))))))))))) | exact rgt (And.right (And.right (And.right (And.right (And.right (And.right (And.right (And.right (And.right (And.right (by assumption))))))))))) | exact rne (And.right (And.right (And.right (And.right (And.right (And.right (And.right (And.right (And.right (And.right (by assumption))))))))))) | exact ren (And.right (And.right (And.right (And.right (And.right (And.right (And.right (And.right (And.right (And.right (by assumption))))))))))) | exact qlt (And.right (And.right (And.right (And.right (And.right (And.right (And.right (And.right (And.right (And.right (And.right (by assumption)))))))))))) | exact qgt (And.right (And.right (And.right (And.right (And.right (And.right (And.right (And.right (And.right (And.right (And.right (by assumption)))))))))))) | exact qne (And.right (And.right (And.right (And.right (And.right (And.right (And.right (And.right (And.right (And.right (And.right (by assumption)))))))))))) | exact qen (And.right (And.right (And.right (And.right (And.right (And.right (And.right (And.right (And.right (And.right (And.right (by assumption)))))))))))) | exact rlt (And.right (And.right (And.right (And.right (And.right (And.right (And.right (And.right (And.right (And.right (And.right (by assumption)))))))))))) | exact rgt (And.right (And.right (And.right (And.right (And.right (And.right (And.right (And.right (And.right (And.right (And.right (by assumption)))))))))))) | exact rne (And.right (And.right (And.right (And.right (And.right (And.right (And.right (And.right (And.right (And.right (And.right (by assumption)))))))))))) | exact ren (And.right (And.right (And.right (And.right (And.right (And.right (And.right (And.right (And.right (And.right (And.right (by assumption)))))))))))) | exact qlt (And.right (And.right (And.right (And.right (And.right (And.right (And.right (And.right (And.right (And.right (And.right (And.right (by assumption))))))))))))) | exact qgt (And.right (And.right (And.right (And.right (And.right (And.right (And.right (And.right (And.right (And.right (And.right (And.right (by assumption))))))))))))) | exact qne (And.right (And.right (And.right (And.right (And.right (And.right (And.right (And.right (And.right (And.right (And.right (And.right (by assumption))))))))))))) | exact qen (And.right (And.right (And.right (And.right (And.right (And.right (And.right (And.right (And.right (And.right (And.right (And.right (by assumption))))))))))))) | exact rlt (And.right (And.right (And.right (And.right (And.right (And.right (And.right (And.right (And.right (And.right (And.right (And.right (by assumption))))))))))))) | exact rgt (And.right (And.right (And.right (And.right (And.right (And.right (And.right (And.right (And.right (And.right (And.right (And.right (by assumption))))))))))))) | exact rne (And.right (And.right (And.right (And.right (And.right (And.right (And.right (And.right (And.right (And.right (And.right (And.right (by assumption))))))))))))) | exact ren (And.right (And.right (And.right (And.right (And.right (And.right (And.right (And.right (And.right (And.right (And.right (And.right (by assumption))))))))))))) | exact qlt (And.right (And.right (And.right (And.right (And.right (And.right (And.right (And.right (And.right (And.right (And.right (And.right (And.right (by assumption)))))))))))))) | exact qgt (And.right (And.right (And.right (And.right (And.right (And.right (And.right (And.right (And.right (And.right (And.right (And.right (And.right (by assumption)))))))))))))) | exact qne (And.right (And.right (And.right (And.right (And.right (And.right (And.right (And.right (And.right (And.right (And.right (And.right (And.right (by assumption)))))))))))))) | exact qen (And.right (And.right (And.right (And.right (And.right (And.right (And.right (And.right (And.right (And.right (And.right (And.right (And.right (by assumption)))))))))))))) | exact rlt (And.right (And.right (And.right (And.right (And.right (And.right (And.right (And.right (And.right (And.right (And.right (And.right (And.right (by assumption)))))))))))))) | exact rgt (And.right (And.right (And.right (And.right (And.right (And.right (And.right (And.right (And.right (And.right (And.right (And.right (And.right (by assumption)))))))))))))) | exact rne (And.right (And.right (And.right (And.right (And.right (And.right (And.right (And.right (And.right (And.right (And.right (And.right (And.right (by assumption)))))))))))))) | exact ren (And.right (And.right (And.right (And.right (And.right (And.right (And.right (And.right (And.right (And.right (And.right (And.right (And.right (by assumption)))))))))))))) | exact qlt (And.right (And.right (And.right (And.right (And.right (And.right (And.right (And.right (And.right (And.right (And.right (And.right (And.right (And.right (by assumption))))))))))))))) | exact qgt (And.right (And.right (And.right (And.right (And.right (And.right (And.right (And.right (And.right (And.right (And.right (And.right (And.right (And.right (by assumption))))))))))))))) | exact qne (And.right (And.right (And.right (And.right (And.right (And.right (And.right (And.right (And.right (And.right (And.right (And.right (And.right (And.right (by assumption))))))))))))))) | exact qen (And.right (And.right (And.right (And.right (And.right (And.right (And.right (And.right (And.right (And.right (And.right (And.right (And.right (And.right (by assumption))))))))))))))) | exact rlt (And.right (And.right (And.right (And.right (And.right (And.right (And.right (And.right (And.right (And.right (And.right (And.right (And.right (And.right (by assumption))))))))))))))) | exact rgt (And.right (And.right (And.right (And.right (And.right (And.right (And.right (And.right (And.right (And.right (And.right (And.right (And.right (And.right (by assumption))))))))))))))) | exact rne (And.right (And.right (And.right (And.right (And.right (And.right (And.right (And.right (And.right (And.right (And.right (And.right (And.right (And.right (by assumption))))))))))))))) | exact ren (And.right (And.right (And.right (And.right (And.right (And.right (And.right (And.right (And.right (And.right (And.right (And.right (And.right (And.right (by assumption))))))))))))))) | exact qlt (And.right (And.right (And.right (And.right (And.right (And.right (And.right (And.right (And.right (And.right (And.right (And.right (And.right (And.right (And.right (by assumption)))))))))))))))) | exact qgt (And.right (And.right (And.right (And.right (And.right (And.right (And.right (And.right (And.right (And.right (And.right (And.right (And.right (And.right (And.right (by assumption)))))))))))))))) | exact qne (And.right (And.right (And.right (And.right (And.right (And.right (And.right (And.right (And.right (And.right (And.right (And.right (And.right (And.right (And.right (by assumption)))))))))))))))) | exact qen (And.right (And.right (And.right (And.right (And.right (And.right (And.right (And.right (And.right (And.right (And.right (And.right (And.right (And.right (And.right (by assumption)))))))))))))))) | exact rlt (And.right (And.right (And.right (And.right (And.right (And.right (And.right (And.right (And.right (And.right (And.right (And.right (And.right (And.right (And.right (by assumption)))))))))))))))) | exact rgt (And.right (And.right (And.right (And.right (And.right (And.right (And.right (And.right (And.right (And.right (And.right (And.right (And.right (And.right (And.right (by assumption)))))))))))))))) | exact rne (And.right (And.right (And.right (And.right (And.right (And.right (And.right (And.right (And.right (And.right (And.right (And.right (And.right (And.right (And.right (by assumption)))))))))))))))) | exact ren (And.right (And.right (And.right (And.right (And.right (And.right (And.right (And.right (And.right (And.right (And.right (And.right (And.right (And.right (And.right (by assumption))))))))))))))))))
  trivial
theorem layIni092 : True := by
  k_with "mine texts" => ((try dsimp only [← sx0, ← sx1, ← sx2, ← sx3, ← sx4, ← sx5, ← sx6, ← sx7, ← sx8, ← sx9, ← sx10, ← sx11, ← sx12, ← sx13, ← sx14, ← sx15, ← sx16, ← sx17, ← sx18, ← sx19, ← sx20, ← sx21, ← sx22, ← sx23, ← sx24, ← sx25, ← sx26, ← sx27, ← sx28, ← sx29, ← sx30, ← sx31, ← sx32, ← sx33, ← sx34, ← sx35, ← sx36, ← sx37, ← sx38, ← sx39, ← sx40, ← sx41, ← sx42, ← sx43, ← sx44, ← sx45, ← sx46, ← sx47, ← sx48, ← sx49, ← sx50, ← sx51, ← sx52, ← sx53, ← sx54, ← sx55, ← sx56, ← sx57, ← sx58, ← sx59, ← sx60, ← sx61, ← sx62, ← sx63, ← sx64, ← sx65, ← sx66, ← sx67, ← sx68, ← sx69, ← sx70, ← sx71, ← sx72, ← sx73, ← sx74, ← sx75, ← sx76, ← sx77, ← sx78, ← sx79, ← sx80, ← sx81, ← sx82, ← sx83, ← sx84, ← sx85, ← sx86, ← sx87, ← sx88, ← sx89, ← sx90, ← sx91, ← sx92, ← sx93, ← sx94, ← sx95, ← sx96, ← sx97, ← sx98, ← sx99, ← sx100, ← sx101, ← sx102, ← sx103, ← sx104, ← sx105, ← sx106, ← sx107, ← sx108, ← sx109, ← sx110, ← sx111, ← sx112, ← sx113]))
  k_with "mine drop" => (first | (refine' Drop.head ?a; (case a => k_all)) | (refine' Drop.tail ?a ?b; (case a => k_ne); (case b => walk_at "mine drop")))
  k_with "setAttr ref" => ((k_here; k_dflt (first | (refine' exc_set0 ?k1 ?k2 ?k3 ?k4 ?k5 ?k6 ?k7 ?k8 ?k9 ?_; (case k1 => k_asm); (case k2 => k_asm); (case k3 => k_asm); (case k4 => k_mem); (case k5 => k_is); (case k6 => kernel_rfl); (case k7 => k_is); (case k8 => k_is); (case k9 => intro zqd; k_upd); k_whole; intro zqdp zqhp zqFp zqNp zql1; (try k_lt zql1)) | (refine' exc_set_args ?k1 ?k2 ?k3 ?k4 ?k5 ?k6 ?k7 ?k8 ?k9 ?k10 ?_; (case k1 => k_asm); (case k2 => k_asm); (case k3 => k_asm); (case k4 => first | (refine' InstAt.of_exc ?N ?h1 ?h2; (case N => k_asm); (case h1 => k_mem); (case h2 => k_mem)) | (refine' InstAt.of_exc0 ?N ?h1; (case N => k_asm); (case h1 => k_mem))); (case k5 => exact isTup_of (by k_asm) (by k_mem)); (case k6 => k_is); (case k7 => kernel_rfl); (case k8 => k_is); (case k9 => k_is); (case k10 => k_upd); k_whole; intro zqhp zqFp zqNp) | (refine' exc_set ?k1 ?k2 ?k3 ?k4 ?k5 ?k6 ?k7 ?k8 ?k9 ?k10 ?k11 ?k12 ?_; (case k1 => k_asm); (case k2 => k_asm); (case k3 => k_asm); (case k4 => first | (refine' InstAt.of_exc ?N ?h1 ?h2; (case N => k_asm); (case h1 => k_mem); (case h2 => k_mem)) | (refine' InstAt.of_exc0 ?N ?h1; (case N => k_asm); (case h1 => k_mem))); (case k5 => k_is); (case k6 => kernel_rfl); (case k7 => k_is); (case k8 => k_is); (case k9 => k_get); (case k10 => k_put); (case k11 => k_upd); (case k12 => exact Nat.le_of_ble_eq_true rfl); k_whole; intro zqhp zqFp zqNp))))
  k_with "call builtin:Exception.__init__" => ((k_here; k_dflt (refine' exc_init_call ?k1 ?k2 ?k3 ?k4 ?k5 ?k6 ?_; (case k1 => k_asm); (case k2 => k_asm); (case k3 => k_asm); (case k4 => first | (refine' InstAt.of_exc ?N ?h1 ?h2; (case N => k_asm); (case h1 => k_mem); (case h2 => k_mem)) | (refine' InstAt.of_exc0 ?N ?h1; (case N => k_asm); (case h1 => k_mem))); (case k5 => k_is); (case k6 => intro zqt; k_upd); k_whole; intro zqtp zqhp zqFp zqNp zql1; (try k_lt zql1))))
  k_with "call builtin:repr" => ((k_here; k_dflt (refine' repr_use ?k1 ?k2 ?k3 ?k4 ?k5 ?k6 ?k7 ?_; (case k1 => assumption); (case k2 => k_asm); (case k3 => k_asm); (case k4 => exact rfl); (case k5 => exact rfl); (case k6 => exact Nat.le_of_ble_eq_true rfl); (case k7 => exact Nat.le_of_ble_eq_true rfl); k_whole; intro zqhp zqup zqtkp zqFp zqNp)))
  k_with "BackIn" => ((k_dflt (refine' back_ ?k1 ?k2 ?k3 ?_; (case k1 => k_asm); (case k2 => k_asm); (case k3 => walk_at "mine drop"); k_whole; intro zqFp zqNp; (try dsimp only))))
  k_with "call ref" => ((k_here; k_dflt (refine wpAny_call ?_; refine' enter_in ?k1 ?k2 ?k3 ?k4 ?k5 ?k6 ?k7 ?k8 ?kB ?c2 ?c3 ?c4 ?c5 ?_; (case k1 => k_asm); (case k2 => k_asm); (case k3 => k_asm); (case k4 => exact Top.nolimit (by assumption)); (case k5 => k_is); (case k6 => k_is); (case k7 => exact Nat.le_of_ble_eq_true rfl); (case k8 => first | ((with_reducible show BindsTo _ _ ⟨[_], []⟩ _); first | exact BindsTo.of_eq (binds := [(_, _)]) rfl | exact binds_K (binds := [(_, _)]) (by k_in) rfl (by k_is) rfl rfl rfl) | ((with_reducible show BindsTo _ _ ⟨[_, _], []⟩ _); first | exact BindsTo.of_eq (binds := [(_, _), (_, _)]) rfl | exact binds_K (binds := [(_, _), (_, _)]) (by k_in) rfl (by k_is) rfl rfl rfl) | ((with_reducible show BindsTo _ _ ⟨[_, _, _], []⟩ _); first | exact BindsTo.of_eq (binds := [(_, _), (_, _), (_, _)]) rfl | exact binds_K (binds := [(_, _), (_, _), (_, _)]) (by k_in) rfl (by k_is) rfl rfl rfl) | ((with_reducible show BindsTo _ _ ⟨[_, _, _, _], []⟩ _); first | exact BindsTo.of_eq (binds := [(_, _), (_, _), (_, _), (_, _)]) rfl | exact binds_K (binds := [(_, _), (_, _), (_, _), (_, _)]) (by k_in) rfl (by k_is) rfl rfl rfl) | ((with_reducible show BindsTo _ _ ⟨[_, _, _, _, _], []⟩ _); first | exact BindsTo.of_eq (binds := [(_, _), (_, _), (_, _), (_, _), (_, _)]) rfl | exact binds_K (binds := [(_, _), (_, _), (_, _), (_, _), (_, _)]) (by k_in) rfl (by k_is) rfl rfl rfl)); (case c5 => decide); (case kB => exact locs rfl); (case c2 => exact rfl); (case c3 => exact rfl); (case c4 => exact rfl); k_whole; intro zqoLp zqLp zqhp zqtkp zqFp zqNp zql1 zqn1; (try k_lt zql1); (try (replace zqn1 := allNe_of zqn1; simp only [AllNe, and_true] at zqn1)); (try dsimp only); walk_at "mine texts")))
  k_with "call builtin:str.join" => ((k_here; (with_reducible show wpAny _ _ (call (Value.builtin "str.join") [Value.str _ _, Value.ref _]) _ _ _); k_dflt (refine join_listC (by is_list) (by repeat constructor) (by decide) (by (simp only [List.map_cons, List.map_nil, List.sum_cons, List.sum_nil, List.length_cons, List.length_nil]; omega)) ?_); intro zqtp zqkp))
  k_with "getMethod type:Exception" => ((k_here; refine' method_type ?F ?X ?m (by decide +kernel) ?e ?h ?_; (case F => k_asm); (case X => k_asm); (case m => exact meta_Exception); (case e => k_dflt k_is); (case h => k_handed)))
  k_with "compareOp IsNot" => ((k_here; k_dflt (refine isNot_none (by assumption) ?_)))
  k_with "call builtin:str.format" => ((k_here; k_dflt (refine' line_use ?k1 ?k2 ?k3 ?k4 ?k5 ?k6 ?k7 ?_; (case k1 => assumption); (case k2 => k_asm); (case k3 => k_asm); (case k4 => exact rfl); (case k5 => exact rfl); (case k6 => exact Nat.le_of_ble_eq_true rfl); (case k7 => exact Nat.le_of_ble_eq_true rfl); k_whole; intro zqhp zqup zqtkp zqFp zqNp)))
  k_with "call builtin:str.format" => ((k_here; (with_reducible show wpAny _ _ (call (Value.builtin "str.format") [Value.str _ _, _, _, _, _]) _ _ _); k_dflt (refine' fmt_use ?k1 ?k2 ?k3 ?k4 ?k5 ?_; (case k1 => k_asm); (case k2 => k_asm); (case k3 => exact ⟨rfl, rfl, Nat.le_of_ble_eq_true rfl, Nat.le_of_ble_eq_true rfl⟩); (case k4 => exact args_5 _ _ _ _ _); (case k5 => walk_at "mine fmt")); k_whole; intro zqhp zqup zqtkp zqFp zqNp))
  k_with "pyReprObj" => ((k_here; k_dflt (refine' reprObj_use ?k1 ?k2 ?k3 ?k4 ?k5 ?k6 ?k7 ?_; (case k1 => assumption); (case k2 => k_asm); (case k3 => k_asm); (case k4 => exact rfl); (case k5 => exact rfl); (case k6 => exact Nat.le_of_ble_eq_true rfl); (case k7 => exact Nat.le_of_ble_eq_true rfl); k_whole; intro zqhp zqup zqtkp zqFp zqNp)))
  trivial
def iniB (K : Frag) (C : Addr) : Bool := (findIn K (.ref C) "__setattr__" == some (some (.builtin "object.__setattr__"))) && excOver K C && (takerIn K C "message" == some none) && hasDictIn K C && (subIn K (.ref C) (.type "Exception") == some true)
def Halt (P : Prop) : Prop := P
theorem layIni093 : True := by
  k_with "setAttr ref" => ((k_here; refine (show Halt _ from ?_)))
  k_with "call builtin:Exception.__init__" => ((k_here; refine (show Halt _ from ?_)))
  k_with "BackIn" => ((refine (show Halt _ from ?_)))
  trivial
theorem errIni : ∀ {p : Program} {loose : List Str} {mean : ExcName → Option Value} {mg mb : Str → Option Value} {w : World} {A : Around} {E : Value → Shared → Prop} {s : Shared} {h₀ : Heap} {L : Addr} {m : Str → Option Value} {news : List (Addr × Obj)} {gg : Obj → List (Addr × Obj)} {x ta C : Addr} {msg : Str} {u : Tok} {Q : Value → Shared → Prop}
    (F : Fr h₀ L s.heap m) (KX : (hz.heap_188 w.params).In h₀) (T : Top p loose mean mg mb h₀) (N : News h₀ L s.heap news) (U : UpdF x (excObj C none ta) news gg) (hC : iniB (hz.heap_188 w.params) C = true) (hA : A.depth < 900)
    (hQ : ∀ d t h' tk uk, Fr h₀ L h' m → News h₀ L h' ((t, tupObj [.str msg u]) :: (d, dictOf [⟨PyData.keyHash w.params "message", .str "message" uk, .str msg u⟩] 1) :: gg (excObj C (some d) t)) → (∀ p ∈ news, p.1 < d) → (∀ p ∈ news, p.1 < t) → d < t → Q .none { s with heap := h', toks := tk }),
    wpAny (model PySem.Challenge.rw_dm0028_09.prog w) A (call (.ref 29) [.ref x, .str msg u]) Q E s := by
  w_top off
  k_fill
  intro p loose mean mg mb w A E s h₀ L m news gg x ta C msg u Q F KX T N U hC hA hQ
  simp only [iniB, Bool.and_eq_true, beq_iff_eq] at hC
  obtain ⟨hh, g, dr, tk, os⟩ := s
  dsimp only at F N hQ
  w_strict (
  refine wpAny_call ?_
  k_dflt (refine' enter_in F KX N T.nolimit ?k5 ?k6 ?k7 ?k8 ?kB ?c2 ?c3 ?c4 ?c5 ?_; (case k5 => k_is); (case k6 => k_is); (case k7 => exact Nat.lt_of_lt_of_le hA (Nat.le_of_ble_eq_true rfl)); (case k8 => first | exact BindsTo.of_eq (binds := [(_, _), (_, _)]) rfl | exact binds_K (binds := [(_, _), (_, _)]) (KX.keeps F.keep) rfl (by k_is) rfl rfl rfl); (case c5 => decide); (case kB => exact locs rfl); (case c2 => exact rfl); (case c3 => exact rfl); (case c4 => exact rfl))
  intro oL L' h' tk' F' N' l1 l2
  clear F N
  walk_at "mine texts"
  k_steps
  unfold Halt
  have hxL : L ≠ x := fun e => l2 _ (updF_mem U).1 e.symm
  refine exc_set0 F' KX N' (.tail _ (updF_mem U).1) hC.1.1.1.1 hC.1.1.1.2 hC.1.1.2 hC.1.2 (fun d => .tail hxL (updF_to U _)) ?_
  intro d h1 F1 N1 l3
  clear F' N'
  k_steps
  unfold Halt
  have l5 : ∀ p ∈ news, p.1 < d := fun p hp => l3 p (.tail _ hp)
  have hxd : x < d := l5 _ (updF_mem U).1
  refine exc_init_call F1 KX N1 (InstAt.of_exc N1 (.tail _ (.tail _ ((updF_mem U).2 _).1)) (.head _)) hC.2 (fun t => .tail (Nat.ne_of_gt hxd) (.tail hxL (updF_on U _ _))) ?_
  intro t h2 F2 N2 l4
  clear F1 N1
  k_steps
  unfold Halt
  have l6 : L < t := l4 _ (.tail _ (.head _))
  have l7 : d < t := l4 _ (.head _)
  have l8 : L < d := l3 _ (.head _)
  intro hb
  have D : ∀ od : Obj, Drop L oL ((t, tupObj [.str msg u]) :: (d, od) :: (L, oL) :: gg (excObj C (some d) t)) ((t, tupObj [.str msg u]) :: (d, od) :: gg (excObj C (some d) t)) := fun od => Drop.tail (p := (t, tupObj [.str msg u])) (Nat.ne_of_gt l6) (Drop.tail (p := (d, od)) (Nat.ne_of_gt l8) (Drop.head (updF_ne (o' := excObj C (some d) t) U l2)))
  have F3 := hb _ (N2 _ (.tail _ (.tail _ (.head _)))).1 F2.keep
  have N3 := fun p hp => (⟨(N2 p ((D _).sub p hp).1).1, ((D _).sub p hp).2, (N2 p ((D _).sub p hp).1).2.2⟩ : _ ∧ _ ∧ _)
  exact hQ d t h2 _ _ F3 N3 l5 (fun p hp => Nat.lt_trans (l5 p hp) l7) l7)
end
section
theorem layKc09a1 : True := by
  k_with_none
  k_with "ne" => (with_reducible (first | exact ns1 | exact ns2 | exact qlt (by assumption) | exact qgt (by assumption) | exact qne (by assumption) | exact qen (by assumption) | exact rlt (by assumption) | exact rgt (by assumption) | exact rne (by assumption) | exact ren (by assumption) | exact qlt (And.right (by assumption)) | exact qgt (And.right (by assumption)) | exact qne (And.right (by assumption)) | exact qen (And.right (by assumption)) | exact rlt (And.right (by assumption)) | exact rgt (And.right (by assumption)) | exact rne (And.right (by assumption)) | exact ren (And.right (by assumption)) | exact qlt (And.right (And.right (by assumption))) | exact qgt (And.right (And.right (by assumption))) | exact qne (And.right (And.right (by assumption))) | exact qen (And.right (And.right (by assumption))) | exact rlt (And.right (And.right (by assumption))) | exact rgt (And.right (And.right (by assumption))) | exact rne (And.right (And.right (by assumption))) | exact ren (And.right (And.right (by assumption))) | exact qlt (And.right (And.right (And.right (by assumption)))) | exact qgt (And.right (And.right (And.right (by assumption)))) | exact qne (And.right (And.right (And.right (by assumption)))) | exact qen (And.right (And.right (And.right (by assumption)))) | exact rlt (And.right (And.right (And.right (by assumption)))) | exact rgt (And.right (And.right (And.right (by assumption)))) | exact rne (And.right (And.right (And.right (by assumption)))) | exact ren (And.right (And.right (And.right (by assumption)))) | exact qlt (And.right (And.right (And.right (And.right (by assumption))))) | exact qgt (And.right (And.right (And.right (And.right (by assumption))))) | exact qne (And.right (And.right (And.right (And.right (by assumption))))) | exact qen (And.right (And.right (And.right (And.right (by assumption))))) | exact rlt (And.right (And.right (And.right (And.right (by assumption))))) | exact rgt (And.right (And.right (And.right (And.right (by assumption))))) | exact rne (And.right (And.right (And.right (And.right (by assumption))))) | exact ren (And.right (And.right (And.right (And.right (by assumption))))) | exact qlt (And.right (And.right (And.right (And.right (And.right (by assumption)))))) | exact qgt (And.right (And.right (And.right (And.right (And.right (by assumption)))))) | exact qne (And.right (And.right (And.right (And.right (And.right (by assumption)))))) | exact qen (And.right (And.right (And.right (And.right (And.right (by assumption)))))) | exact rlt (And.right (And.right (And.right (And.right (And.right (by assumption)))))) | exact rgt (And.right (And.right (And.right (And.right (And.right (by assumption)))))) | exact rne (And.right (And.right (And.right (And.right (And.right (by assumption)))))) | exact ren (And.right (And.right (And.right (And.right (And.right (by assumption)))))) | exact qlt (And.right (And.right (And.right (And.right (And.right (And.right (by assumption))))))) | exact qgt (And.right (And.right (And.right (And.right (And.right (And.right (by assumption))))))) | exact qne (And.right (And.right (And.right (And.right (And.right (And.right (by assumption))))))) | exact qen (And.right (And.right (And.right (And.right (And.right (And.right (by assumption))))))) | exact rlt (And.right (And.right (And.right (And.right (And.right (And.right (by assumption))))))) | exact rgt (And.right (And.right (And.right (And.right (And.right (And.right (by assumption))))))) | exact rne (And.right (And.right (And.right (And.right (And.right (And.right (by assumption))))))) | exact ren (And.right (And.right (And.right (And.right (And.right (And.right (by assumption))))))) | exact qlt (And.right (And.right (And.right (And.right (And.right (And.right (And.right (by assumption)))))))) | exact qgt (And.right (And.right (And.right (And.right (And.right (And.right (And.right (by assumption)))))))) | exact qne (And.right (And.right (And.right (And.right (And.right (And.right (And.right (by assumption)))))))) | exact qen (And.right (And.right (And.right (And.right (And.right (And.right (And.right (by assumption)))))))) | exact rlt (And.right (And.right (And.right (And.right (And.right (And.right (And.right (by assumption)))))))) | exact rgt (And.right (And.right (And.right (And.right (And.right (And.right (And.right (by assumption)))))))) | exact rne (And.right (And.right (And.right (And.right (And.right (And.right (And.right (by assumption)))))))) | exact ren (And.right (And.right (And.right (And.right (And.right (And.right (And.right (by assumption)))))))) | exact qlt (And.right (And.right (And.right (And.right (And.right (And.right (And.right (And.right (by assumption))))))))) | exact qgt (And.right (And.right (And.right (And.right (And.right (And.right (And.right (And.right (by assumption))))))))) | exact qne (And.right (And.right (And.right (And.right (And.right (And.right (And.right (And.right (by assumption))))))))) | exact qen (And.right (And.right (And.right (And.right (And.right (And.right (And.right (And.right (by assumption))))))))) | exact rlt (And.right (And.right (And.right (And.right (And.right (And.right (And.right (And.right (by assumption))))))))) | exact rgt (And.right (And.right (And.right (And.right (And.right (And.right (And.right (And.right (by assumption))))))))) | exact rne (And.right (And.right (And.right (And.right (And.right (And.right (And.right (And.right (by assumption))))))))) | exact ren (And.right (And.right (And.right (And.right (And.right (And.right (And.right (And.right (by assumption))))))))) | exact qlt (And.right (And.right (And.right (And.right (And.right (And.right (And.right (And.right (And.right (by assumption)))))))))) | exact qgt (And.right (And.right (And.right (And.right (And.right (And.right (And.right (And.right (And.right (by assumption)))))))))) | exact qne (And.right (And.right (And.right (And.right (And.right (And.right (And.right (And.right (And.right (by assumption)))))))))) | exact qen (And.right (And.right (And.right (And.right (And.right (And.right (And.right (And.right (And.right (by assumption)))))))))) | exact rlt (And.right (And.right (And.right (And.right (And.right (And.right (And.right (And.right (And.right (by assumption)))))))))) | exact rgt (And.right (And.right (And.right (And.right (And.right (And.right (And.right (And.right (And.right (by assumption)))))))))) | exact rne (And.right (And.right (And.right (And.right (And.right (And.right (And.right (And.right (And.right (by assumption)))))))))) | exact ren (And.right (And.right (And.right (And.right (And.right (And.right (And.right (And.right (And.right (by assumption)))))))))) | exact qlt (And.right (And.right (And.right (And.right (And.right (And.right (And.right (And.right (And.right (And.right (by assumption))))))))))) | exact qgt (And.right (And.right (And.right (And.right (And.right (And.right (And.right (And.right (And.right (And.right (by assumption))))))))))) | exact qne (And.right (And.right (And.right (And.right (And.right (And.right (And.right (And.right (And.right (And.right (by assumption))))))))))) | exact qen (And.right (And.right (And.right (And.right (And.right (And.right (And.right (And.right (And.right (And.right (by assumption))))))))))) | exact rlt (And.right (And.right (And.right (And.right (And.right (And.right (And.right (And.right (And.right (And.right (by assumption))))))))))) | exact rgt (And.right (And.right (And.right (And.right (And.right (And.right (And.right (And.right (And.right (And.right (by assumption))))))))))) | exact rne (And.right (And.right (And.right (And.right (And.right (And.right (And.right (And.right (And.right (And.right (by assumption))))))))))) | exact ren (And.right (And.right (And.right (And.right (And.right (And.right (And.right (And.right (And.right (And.right (by assumption))))))))))) | exact qlt (And.right (And.right (And.right (And.right (And.right (And.right (And.right (And.right (And.right (And.right (And.right (by assumption)))))))))))) | exact qgt (And.right (And.right (And.right (And.right (And.right (And.right (And.right (And.right (And.right (And.right (And.right (by assumption)))))))))))) | exact qne (And.right (And.right (And.right (And.right (And.right (And.right (And.right (And.right (And.right (And.right (And.right (by assumption)))))))))))) | exact qen (And.right (And.right (And.right (And.right (And.right (And.right (And.right (And.right (And.right (And.right (And.right (by assumption)))))))))))) | exact rlt (And.right (And.right (And.right (And.right (And.right (And.right (And.right (And.right (And.right (And.right (And.right (by assumption)))))))))))) | exact rgt (And.right (And.right (And.right (And.right (And.right (And.right (And.right (And.right (And.right (And.right (And.right (by assumption)))))))))))) | exact rne (And.right (And.right (And.right (And.right (And.right (And.right (And.right (And.right (And.right (And.right (And.right (by assumption)))))))))))) | exact ren (And.right (And.right (And.right (And.right (And.right (And.right (And.right (And.right (And.right (And.right (And.right (by assumption)))))))))))) | exact qlt (And.right (And.right (And.right (And.right (And.right (And.right (And.right (And.right (And.right (And.right (And.right (And.right (by assumption))))))))))))) | exact qgt (And.right (And.right (And.right (And.right (And.right (And.right (And.right (And.right (And.right (And.right (And.right (And.right (by assumption))))))))))))) | exact qne (And.right (And.right (And.right (And.right (And.right (And.right (And.right (And.right (And.right (And.right (And.right (And.right (by assumption))))))))))))) | exact qen (And.right (And.right (And.right (And.right (And.right (And.right (And.right (And.right (And.right (And.right (And.right (And.right (by assumption))))))))))))) | exact rlt (And.right (And.right (And.right (And.right (And.right (And.right (And.right (And.right (And.right (And.right (And.right (And.right (by assumption))))))))))))) | exact rgt (And.right (And.right (And.right (And.right (And.right (And.right (And.right (And.right (And.right (And.right (And.right (And.right (by assumption))))))))))))) | exact rne (And.right (And.right (And.right (And.right (And.right (And.right (And.right (And.right (And.right (And.right (And.right (And.right (by assumption))))))))))))) | exact ren (And.right (And.right (And.right (And.right (And.right (And.right (And.right (And.right (And.right (And.right (And.right (And.right (by assumption))))))))))))) | exact qlt (And.right (And.right (And.right (And.right (And.right (And.right (And.right (And.right (And.right (And.right (And.right (And.right (And.right (by assumption)))))))))))))) | exact qgt (And.right (And.right (And.right (And.right (And.right (And.right (And.right (And.right (And.right (And.right (And.right (And.right (And.right (by assumption)))))))))))))) | exact qne (And.right (And.right (And.right (And.right (And.right (And.right (And.right (And.right (And.right (And.right (And.right (And.right (And.right (by assumption)))))))))))))) | exact qen (And.right (And.right (And.right (And.right (And.right (And.right (And.right (And.right (And.right (And.right (And.right (And.right (And.right (by assumption)))))))))))))) | exact rlt (And.right (And.right (And.right (And.right (And.right (And.right (And.right (And.right (And.right (And.right (And.right (And.right (And.right (by assumption)))))))))))))) | exact rgt (And.right (And.right (And.right (And.right (And.right (And.right (And.right (And.right (And.right (And.right (And.right (And.right (And.right (by assumption)))))))))))))) | exact rne (And.right (And.right (And.right (And.right (And.right (And.right (And.right (And.right (And.right (And.right (And.right (And.right (And.right (by assumption)))))))))))))) | exact ren (And.right (And.right (And.right (And.right (And.right (And.right (And.right (And.right (And.right (And.right (And.right (And.right (And.right (by assumption)))))))))))))) | exact qlt (And.right (And.right (And.right (And.right (And.right (And.right (And.right (And.right (And.right (And.right (And.right (And.right (And.right (And.right (by assumption))))))))))))))) | exact qgt (And.right (And.right (And.right (And.right (And.right (And.right (And.right (And.right (And.right (And.right (And.right (And.right (And.right (And.right (by assumption))))))))))))))) | exact qne (And.right (And.right (And.right (And.right (And.right (And.right (And.right (And.right (And.right (And.right (And.right (And.right (And.right (And.right (by assumption))))))))))))))) | exact qen (And.right (And.right (And.right (And.right (And.right (And.right (And.right (And.right (And.right (And.right (And.right (And.right (And.right (And.right (by assumption))))))))))))))) | exact rlt (And.right (And.right (And.right (And.right (And.right (And.right (And.right (And.right (And.right (And.right (And.right (And.right (And.right (And.right (by assumption))))))))))))))) | exact rgt (And.right (And.right (And.right (And.right (And.right (And.right (And.right (And.right (And.right (And.right (And.right (And.right (And.right (And.right (by assumption))))))))))))))) | exact rne (And.right (And.right (And.right (And.right (And.right (And.right (And.right (And.right (And.right (And.right (And.right (And.right (And.right (And.right (by assumption))))))))))))))) | exact ren (And.right (And.right (And.right (And.right (And.right (And.right (And.right (And.right (And.right (And.right (And.right (And.right (And.right (And.right (by assumption))))))))))))))) | exact qlt (And.right (And.right (And.right (And.right (And.right (And.right (And.right (And.right (And.right (And.right (And.right (And.right (And.right (And.right (And.right (by assumption)))))))))))))))) | exact qgt (And.right (And.right (And.right (And.right (And.right (And.right (And.right (And.right (And.right (And.right (And.right (And.right (And.right (And.right (And.right (by assumption)))))))))))))))) | exact qne (And.right (And.right (And.right (And.right (And.right (And.right (And.right (And.right (And.right (And.right (And.right (And.right (And.right (And.right (And.right (by assumption)))))))))))))))) | exact qen (And.right (And.right (And.right (And.right (And.right (And.right (And.right (And.right (And.right (And.right (And.right (And.right (And.right (And.right (And.right (by assumption)))))))))))))))) | exact rlt (And.right (And.right (And.right (And.right (And.right (And.right (And.right (And.right (And.right (And.right (And.right (And.right (And.right (And.right (And.right (by assumption)))))))))))))))) | exact rgt (And.right (And.right (And.right (And.right (And.right (And.right (And.right (And.right (And.right (And.right (And.right (And.right (And.right (And.right (And.right (by assumption)))))))))))))))) | exact rne (And.right (And.right (And.right (And.right (And.right (And.right (And.right (And.right (And.right (And.right (And.right (And.right (And.right (And.right (And.right (by assumption)))))))))))))))) | exact ren (And.right (And.right (And.right (And.right (And.right (And.right (And.right (And.right (And.right (And.right (And.right (And.right (And.right (And.right (And.right (by assumption))))))))))))))))))
  trivial
theorem layKc09a2 : True := by
  k_with "mine texts" => ((try dsimp only [← sx0, ← sx1, ← sx2, ← sx3, ← sx4, ← sx5, ← sx6, ← sx7, ← sx8, ← sx9, ← sx10, ← sx11, ← sx12, ← sx13, ← sx14, ← sx15, ← sx16, ← sx17, ← sx18, ← sx19, ← sx20, ← sx21, ← sx22, ← sx23, ← sx24, ← sx25, ← sx26, ← sx27, ← sx28, ← sx29, ← sx30, ← sx31, ← sx32, ← sx33, ← sx34, ← sx35, ← sx36, ← sx37, ← sx38, ← sx39, ← sx40, ← sx41, ← sx42, ← sx43, ← sx44, ← sx45, ← sx46, ← sx47, ← sx48, ← sx49, ← sx50, ← sx51, ← sx52, ← sx53, ← sx54, ← sx55, ← sx56, ← sx57, ← sx58, ← sx59, ← sx60, ← sx61, ← sx62, ← sx63, ← sx64, ← sx65, ← sx66, ← sx67, ← sx68, ← sx69, ← sx70, ← sx71, ← sx72, ← sx73, ← sx74, ← sx75, ← sx76, ← sx77, ← sx78, ← sx79, ← sx80, ← sx81, ← sx82, ← sx83, ← sx84, ← sx85, ← sx86, ← sx87, ← sx88, ← sx89, ← sx90, ← sx91, ← sx92, ← sx93, ← sx94, ← sx95, ← sx96, ← sx97, ← sx98, ← sx99, ← sx100, ← sx101, ← sx102, ← sx103, ← sx104, ← sx105, ← sx106, ← sx107, ← sx108, ← sx109, ← sx110, ← sx111, ← sx112, ← sx113]))
  k_with "mine drop" => (first | (refine' Drop.head ?a; (case a => k_all)) | (refine' Drop.tail ?a ?b; (case a => k_ne); (case b => walk_at "mine drop")))
  k_with "setAttr ref" => ((k_here; k_dflt (first | (refine' exc_set0 ?k1 ?k2 ?k3 ?k4 ?k5 ?k6 ?k7 ?k8 ?k9 ?_; (case k1 => k_asm); (case k2 => k_asm); (case k3 => k_asm); (case k4 => k_mem); (case k5 => k_is); (case k6 => kernel_rfl); (case k7 => k_is); (case k8 => k_is); (case k9 => intro zqd; k_upd); k_whole; intro zqdp zqhp zqFp zqNp zql1; (try k_lt zql1)) | (refine' exc_set_args ?k1 ?k2 ?k3 ?k4 ?k5 ?k6 ?k7 ?k8 ?k9 ?k10 ?_; (case k1 => k_asm); (case k2 => k_asm); (case k3 => k_asm); (case k4 => first | (refine' InstAt.of_exc ?N ?h1 ?h2; (case N => k_asm); (case h1 => k_mem); (case h2 => k_mem)) | (refine' InstAt.of_exc0 ?N ?h1; (case N => k_asm); (case h1 => k_mem))); (case k5 => exact isTup_of (by k_asm) (by k_mem)); (case k6 => k_is); (case k7 => kernel_rfl); (case k8 => k_is); (case k9 => k_is); (case k10 => k_upd); k_whole; intro zqhp zqFp zqNp) | (refine' exc_set ?k1 ?k2 ?k3 ?k4 ?k5 ?k6 ?k7 ?k8 ?k9 ?k10 ?k11 ?k12 ?_; (case k1 => k_asm); (case k2 => k_asm); (case k3 => k_asm); (case k4 => first | (refine' InstAt.of_exc ?N ?h1 ?h2; (case N => k_asm); (case h1 => k_mem); (case h2 => k_mem)) | (refine' InstAt.of_exc0 ?N ?h1; (case N => k_asm); (case h1 => k_mem))); (case k5 => k_is); (case k6 => kernel_rfl); (case k7 => k_is); (case k8 => k_is); (case k9 => k_get); (case k10 => k_put); (case k11 => k_upd); (case k12 => exact Nat.le_of_ble_eq_true rfl); k_whole; intro zqhp zqFp zqNp))))
  k_with "call builtin:Exception.__init__" => ((k_here; k_dflt (refine' exc_init_call ?k1 ?k2 ?k3 ?k4 ?k5 ?k6 ?_; (case k1 => k_asm); (case k2 => k_asm); (case k3 => k_asm); (case k4 => first | (refine' InstAt.of_exc ?N ?h1 ?h2; (case N => k_asm); (case h1 => k_mem); (case h2 => k_mem)) | (refine' InstAt.of_exc0 ?N ?h1; (case N => k_asm); (case h1 => k_mem))); (case k5 => k_is); (case k6 => intro zqt; k_upd); k_whole; intro zqtp zqhp zqFp zqNp zql1; (try k_lt zql1))))
  k_with "call builtin:repr" => ((k_here; k_dflt (refine' repr_use ?k1 ?k2 ?k3 ?k4 ?k5 ?k6 ?k7 ?_; (case k1 => assumption); (case k2 => k_asm); (case k3 => k_asm); (case k4 => exact rfl); (case k5 => exact rfl); (case k6 => exact Nat.le_of_ble_eq_true rfl); (case k7 => exact Nat.le_of_ble_eq_true rfl); k_whole; intro zqhp zqup zqtkp zqFp zqNp)))
  k_with "BackIn" => ((k_dflt (refine' back_ ?k1 ?k2 ?k3 ?_; (case k1 => k_asm); (case k2 => k_asm); (case k3 => walk_at "mine drop"); k_whole; intro zqFp zqNp; (try dsimp only))))
  k_with "call ref" => ((k_here; k_dflt (refine wpAny_call ?_; refine' enter_in ?k1 ?k2 ?k3 ?k4 ?k5 ?k6 ?k7 ?k8 ?kB ?c2 ?c3 ?c4 ?c5 ?_; (case k1 => k_asm); (case k2 => k_asm); (case k3 => k_asm); (case k4 => exact Top.nolimit (by assumption)); (case k5 => k_is); (case k6 => k_is); (case k7 => exact Nat.le_of_ble_eq_true rfl); (case k8 => first | ((with_reducible show BindsTo _ _ ⟨[_], []⟩ _); first | exact BindsTo.of_eq (binds := [(_, _)]) rfl | exact binds_K (binds := [(_, _)]) (by k_in) rfl (by k_is) rfl rfl rfl) | ((with_reducible show BindsTo _ _ ⟨[_, _], []⟩ _); first | exact BindsTo.of_eq (binds := [(_, _), (_, _)]) rfl | exact binds_K (binds := [(_, _), (_, _)]) (by k_in) rfl (by k_is) rfl rfl rfl) | ((with_reducible show BindsTo _ _ ⟨[_, _, _], []⟩ _); first | exact BindsTo.of_eq (binds := [(_, _), (_, _), (_, _)]) rfl | exact binds_K (binds := [(_, _), (_, _), (_, _)]) (by k_in) rfl (by k_is) rfl rfl rfl) | ((with_reducible show BindsTo _ _ ⟨[_, _, _, _], []⟩ _); first | exact BindsTo.of_eq (binds := [(_, _), (_, _), (_, _), (_, _)]) rfl | exact binds_K (binds := [(_, _), (_, _), (_, _), (_, _)]) (by k_in) rfl (by k_is) rfl rfl rfl) | ((with_reducible show BindsTo _ _ ⟨[_, _, _, _, _], []⟩ _); first | exact BindsTo.of_eq (binds := [(_, _), (_, _), (_, _), (_, _), (_, _)]) rfl | exact binds_K (binds := [(_, _), (_, _), (_, _), (_, _), (_, _)]) (by k_in) rfl (by k_is) rfl rfl rfl)); (case c5 => decide); (case kB => exact locs rfl); (case c2 => exact rfl); (case c3 => exact rfl); (case c4 => exact rfl); k_whole; intro zqoLp zqLp zqhp zqtkp zqFp zqNp zql1 zqn1; (try k_lt zql1); (try (replace zqn1 := allNe_of zqn1; simp only [AllNe, and_true] at zqn1)); (try dsimp only); walk_at "mine texts")))
  k_with "call builtin:str.join" => ((k_here; (with_reducible show wpAny _ _ (call (Value.builtin "str.join") [Value.str _ _, Value.ref _]) _ _ _); k_dflt (refine join_listC (by is_list) (by repeat constructor) (by decide) (by (simp only [List.map_cons, List.map_nil, List.sum_cons, List.sum_nil, List.length_cons, List.length_nil]; omega)) ?_); intro zqtp zqkp))
  k_with "getMethod type:Exception" => ((k_here; refine' method_type ?F ?X ?m (by decide +kernel) ?e ?h ?_; (case F => k_asm); (case X => k_asm); (case m => exact meta_Exception); (case e => k_dflt k_is); (case h => k_handed)))
  k_with "compareOp IsNot" => ((k_here; k_dflt (refine isNot_none (by assumption) ?_)))
  k_with "call builtin:str.format" => ((k_here; k_dflt (refine' line_use ?k1 ?k2 ?k3 ?k4 ?k5 ?k6 ?k7 ?_; (case k1 => assumption); (case k2 => k_asm); (case k3 => k_asm); (case k4 => exact rfl); (case k5 => exact rfl); (case k6 => exact Nat.le_of_ble_eq_true rfl); (case k7 => exact Nat.le_of_ble_eq_true rfl); k_whole; intro zqhp zqup zqtkp zqFp zqNp)))
  k_with "call builtin:str.format" => ((k_here; (with_reducible show wpAny _ _ (call (Value.builtin "str.format") [Value.str _ _, _, _, _, _]) _ _ _); k_dflt (refine' fmt_use ?k1 ?k2 ?k3 ?k4 ?k5 ?_; (case k1 => k_asm); (case k2 => k_asm); (case k3 => exact ⟨rfl, rfl, Nat.le_of_ble_eq_true rfl, Nat.le_of_ble_eq_true rfl⟩); (case k4 => exact args_5 _ _ _ _ _); (case k5 => walk_at "mine fmt")); k_whole; intro zqhp zqup zqtkp zqFp zqNp))
  k_with "pyReprObj" => ((k_here; k_dflt (refine' reprObj_use ?k1 ?k2 ?k3 ?k4 ?k5 ?k6 ?k7 ?_; (case k1 => assumption); (case k2 => k_asm); (case k3 => k_asm); (case k4 => exact rfl); (case k5 => exact rfl); (case k6 => exact Nat.le_of_ble_eq_true rfl); (case k7 => exact Nat.le_of_ble_eq_true rfl); k_whole; intro zqhp zqup zqtkp zqFp zqNp)))
  k_with "call ref" => ((k_here; (with_reducible show wpAny _ _ (call (Value.ref 29) [Value.ref _, Value.str _ _]) _ _ _); k_dflt (refine' errIni ?k1 ?k2 ?k3 ?k4 ?k5 ?k6 ?k7 ?_; (case k1 => k_asm); (case k2 => k_asm); (case k3 => assumption); (case k4 => k_asm); (case k5 => k_updF); (case k6 => kernel_rfl); (case k7 => exact Nat.le_of_ble_eq_true rfl)); k_whole; intro zqdp zqtp zqhp zqtkp zqukp zqFp zqNp zql1 zql2 zql3; (try dsimp only at zqNp); (try k_lt zql1); (try k_lt zql2)))
  trivial
theorem conNS : ∀ {p : Program} {loose : List Str} {mean : ExcName → Option Value} {mg mb : Str → Option Value} (w : World) (s : Shared) (sec : Value) (rs : Str) (R0 : Rep PySem.Challenge.rw_dm0028_09.prog w s.heap sec rs)
    (Q E : Value → Shared → Prop) (KX : (hz.heap_188 w.params).In s.heap) (T : Top p loose mean mg mb s.heap)
    (hQ : ∀ h' tk e d ta od u, Grow s.heap h' → ErrNew s.heap h' 59 e d ta od (Str.ofString "No section: " ++ rs) u [("section", sec)] [sec] → Q (.ref e) { s with heap := h', toks := tk }),
    wpAny (model PySem.Challenge.rw_dm0028_09.prog w) (AD 600 2000) (call (.ref 59) [sec]) Q E s := by
  w_top off
  k_fill
  intro p loose mean mg mb w s sec rs R0 Q E KX T hQ
  obtain ⟨hh, g, dr, tk, os⟩ := s
  dsimp only at KX T R0 hQ
  have lq0 : (Str.ofString "No section: ").length ≤ 200 := Nat.le_of_ble_eq_true rfl
  have O0 := R0.old
  have sq0 := R0.short
  w_strict (
  refine wpAny_call ?_
  refine exc_make (KX 59 _ (by k_is)) (by decide +kernel) (by decide +kernel) (by decide +kernel) (looks_specialIn KX (by k_is)) (looks_instIn KX (by k_is)) (looks_findIn KX (by k_is)) (fun self => bind_fn KX self (by k_is)) (by size_fits) ?_
  k_dflt (refine' enter_new (h₀ := hh) (binds := [("self", .ref (hh.objs.size + 1)), ("section", sec)]) (news := [(hh.objs.size + 1, excObj 59 none hh.objs.size), (hh.objs.size, tupObj [sec])]) ?k1 ?k2 KX T.nolimit ?k9 ?k5 ?k6 ?k7 ?k8 ?kB ?c2 ?c3 ?c4 ?c5 ?_; (case k5 => k_is); (case k6 => k_is); (case k7 => exact Nat.le_of_ble_eq_true rfl); (case k8 => first | exact BindsTo.of_eq rfl | exact binds_K (Frag.In.keeps KX (made_grow _ _ _)) rfl (by k_is) rfl rfl rfl); (case c5 => decide); (case kB => exact locs rfl); (case c2 => exact rfl); (case c3 => exact rfl); (case c4 => exact rfl); (case k1 => exact made_grow _ _ _); (case k2 => (simp; omega)); (case k9 => exact made_news _ _ _))
  intro L' h' tk' F' N' l1; k_lt l1
  walk_at "mine texts"
  k_steps
  refine ⟨rfl, ?_⟩
  (with_reducible rename Fr _ _ _ _ => Fz)
  (with_reducible rename News _ _ _ _ => Nz)
  refine hQ _ _ _ _ _ _ _ Fz.keep (err_close Nz (by k_mem) (by k_mem) (by k_mem) (Eq.trans (lookIn_dict _ _ _) (by k_get)) ?_)
  intro q hq
  simp only [List.mem_cons, List.not_mem_nil, or_false] at hq
  rcases hq with rfl <;> kernel_rfl)
theorem conNO : ∀ {p : Program} {loose : List Str} {mean : ExcName → Option Value} {mg mb : Str → Option Value} (w : World) (s : Shared) (opt sec : Value) (ro : Str) (R0 : Rep PySem.Challenge.rw_dm0028_09.prog w s.heap opt ro) (rs : Str) (R1 : Rep PySem.Challenge.rw_dm0028_09.prog w s.heap sec rs)
    (Q E : Value → Shared → Prop) (KX : (hz.heap_188 w.params).In s.heap) (T : Top p loose mean mg mb s.heap)
    (hQ : ∀ h' tk e d ta od u, Grow s.heap h' → ErrNew s.heap h' 118 e d ta od (Str.ofString "No option " ++ ro ++ Str.ofString " in section: " ++ rs) u [("option", opt), ("section", sec)] [opt, sec] → Q (.ref e) { s with heap := h', toks := tk }),
    wpAny (model PySem.Challenge.rw_dm0028_09.prog w) (AD 600 2000) (call (.ref 118) [opt, sec]) Q E s := by
  w_top off
  k_fill
  intro p loose mean mg mb w s opt sec ro R0 rs R1 Q E KX T hQ
  obtain ⟨hh, g, dr, tk, os⟩ := s
  dsimp only at KX T R0 R1 hQ
  have lq0 : (Str.ofString "No option ").length ≤ 200 := Nat.le_of_ble_eq_true rfl
  have lq1 : (Str.ofString " in section: ").length ≤ 200 := Nat.le_of_ble_eq_true rfl
  have O0 := R0.old
  have sq0 := R0.short
  have O1 := R1.old
  have sq1 := R1.short
  w_strict (
  refine wpAny_call ?_
  refine exc_make (KX 118 _ (by k_is)) (by decide +kernel) (by decide +kernel) (by decide +kernel) (looks_specialIn KX (by k_is)) (looks_instIn KX (by k_is)) (looks_findIn KX (by k_is)) (fun self => bind_fn KX self (by k_is)) (by size_fits) ?_
  k_dflt (refine' enter_new (h₀ := hh) (binds := [("self", .ref (hh.objs.size + 1)), ("option", opt), ("section", sec)]) (news := [(hh.objs.size + 1, excObj 118 none hh.objs.size), (hh.objs.size, tupObj [opt, sec])]) ?k1 ?k2 KX T.nolimit ?k9 ?k5 ?k6 ?k7 ?k8 ?kB ?c2 ?c3 ?c4 ?c5 ?_; (case k5 => k_is); (case k6 => k_is); (case k7 => exact Nat.le_of_ble_eq_true rfl); (case k8 => first | exact BindsTo.of_eq rfl | exact binds_K (Frag.In.keeps KX (made_grow _ _ _)) rfl (by k_is) rfl rfl rfl); (case c5 => decide); (case kB => exact locs rfl); (case c2 => exact rfl); (case c3 => exact rfl); (case c4 => exact rfl); (case k1 => exact made_grow _ _ _); (case k2 => (simp; omega)); (case k9 => exact made_news _ _ _))
  intro L' h' tk' F' N' l1; k_lt l1
  walk_at "mine texts"
  k_steps
  refine ⟨rfl, ?_⟩
  (with_reducible rename Fr _ _ _ _ => Fz)
  (with_reducible rename News _ _ _ _ => Nz)
  refine hQ _ _ _ _ _ _ _ Fz.keep (err_close Nz (by k_mem) (by k_mem) (by k_mem) (Eq.trans (lookIn_dict _ _ _) (by k_get)) ?_)
  intro q hq
  simp only [List.mem_cons, List.not_mem_nil, or_false] at hq
  rcases hq with rfl | rfl <;> kernel_rfl)
end
section
theorem layKc09b1 : True := by
  k_with_none
  k_with "ne" => (with_reducible (first | exact ns1 | exact ns2 | exact qlt (by assumption) | exact qgt (by assumption) | exact qne (by assumption) | exact qen (by assumption) | exact rlt (by assumption) | exact rgt (by assumption) | exact rne (by assumption) | exact ren (by assumption) | exact qlt (And.right (by assumption)) | exact qgt (And.right (by assumption)) | exact qne (And.right (by assumption)) | exact qen (And.right (by assumption)) | exact rlt (And.right (by assumption)) | exact rgt (And.right (by assumption)) | exact rne (And.right (by assumption)) | exact ren (And.right (by assumption)) | exact qlt (And.right (And.right (by assumption))) | exact qgt (And.right (And.right (by assumption))) | exact qne (And.right (And.right (by assumption))) | exact qen (And.right (And.right (by assumption))) | exact rlt (And.right (And.right (by assumption))) | exact rgt (And.right (And.right (by assumption))) | exact rne (And.right (And.right (by assumption))) | exact ren (And.right (And.right (by assumption))) | exact qlt (And.right (And.right (And.right (by assumption)))) | exact qgt (And.right (And.right (And.right (by assumption)))) | exact qne (And.right (And.right (And.right (by assumption)))) | exact qen (And.right (And.right (And.right (by assumption)))) | exact rlt (And.right (And.right (And.right (by assumption)))) | exact rgt (And.right (And.right (And.right (by assumption)))) | exact rne (And.right (And.right (And.right (by assumption)))) | exact ren (And.right (And.right (And.right (by assumption)))) | exact qlt (And.right (And.right (And.right (And.right (by assumption))))) | exact qgt (And.right (And.right (And.right (And.right (by assumption))))) | exact qne (And.right (And.right (And.right (And.right (by assumption))))) | exact qen (And.right (And.right (And.right (And.right (by assumption))))) | exact rlt (And.right (And.right (And.right (And.right (by assumption))))) | exact rgt (And.right (And.right (And.right (And.right (by assumption))))) | exact rne (And.right (And.right (And.right (And.right (by assumption))))) | exact ren (And.right (And.right (And.right (And.right (by assumption))))) | exact qlt (And.right (And.right (And.right (And.right (And.right (by assumption)))))) | exact qgt (And.right (And.right (And.right (And.right (And.right (by assumption)))))) | exact qne (And.right (And.right (And.right (And.right (And.right (by assumption)))))) | exact qen (And.right (And.right (And.right (And.right (And.right (by assumption)))))) | exact rlt (And.right (And.right (And.right (And.right (And.right (by assumption)))))) | exact rgt (And.right (And.right (And.right (And.right (And.right (by assumption)))))) | exact rne (And.right (And.right (And.right (And.right (And.right (by assumption)))))) | exact ren (And.right (And.right (And.right (And.right (And.right (by assumption)))))) | exact qlt (And.right (And.right (And.right (And.right (And.right (And.right (by assumption))))))) | exact qgt (And.right (And.right (And.right (And.right (And.right (And.right (by assumption))))))) | exact qne (And.right (And.right (And.right (And.right (And.right (And.right (by assumption))))))) | exact qen (And.right (And.right (And.right (And.right (And.right (And.right (by assumption))))))) | exact rlt (And.right (And.right (And.right (And.right (And.right (And.right (by assumption))))))) | exact rgt (And.right (And.right (And.right (And.right (And.right (And.right (by assumption))))))) | exact rne (And.right (And.right (And.right (And.right (And.right (And.right (by assumption))))))) | exact ren (And.right (And.right (And.right (And.right (And.right (And.right (by assumption))))))) | exact qlt (And.right (And.right (And.right (And.right (And.right (And.right (And.right (by assumption)))))))) | exact qgt (And.right (And.right (And.right (And.right (And.right (And.right (And.right (by assumption)))))))) | exact qne (And.right (And.right (And.right (And.right (And.right (And.right (And.right (by assumption)))))))) | exact qen (And.right (And.right (And.right (And.right (And.right (And.right (And.right (by assumption)))))))) | exact rlt (And.right (And.right (And.right (And.right (And.right (And.right (And.right (by assumption)))))))) | exact rgt (And.right (And.right (And.right (And.right (And.right (And.right (And.right (by assumption)))))))) | exact rne (And.right (And.right (And.right (And.right (And.right (And.right (And.right (by assumption)))))))) | exact ren (And.right (And.right (And.right (And.right (And.right (And.right (And.right (by assumption)))))))) | exact qlt (And.right (And.right (And.right (And.right (And.right (And.right (And.right (And.right (by assumption))))))))) | exact qgt (And.right (And.right (And.right (And.right (And.right (And.right (And.right (And.right (by assumption))))))))) | exact qne (And.right (And.right (And.right (And.right (And.right (And.right (And.right (And.right (by assumption))))))))) | exact qen (And.right (And.right (And.right (And.right (And.right (And.right (And.right (And.right (by assumption))))))))) | exact rlt (And.right (And.right (And.right (And.right (And.right (And.right (And.right (And.right (by assumption))))))))) | exact rgt (And.right (And.right (And.right (And.right (And.right (And.right (And.right (And.right (by assumption))))))))) | exact rne (And.right (And.right (And.right (And.right (And.right (And.right (And.right (And.right (by assumption))))))))) | exact ren (And.right (And.right (And.right (And.right (And.right (And.right (And.right (And.right (by assumption))))))))) | exact qlt (And.right (And.right (And.right (And.right (And.right (And.right (And.right (And.right (And.right (by assumption)))))))))) | exact qgt (And.right (And.right (And.right (And.right (And.right (And.right (And.right (And.right (And.right (by assumption)))))))))) | exact qne (And.right (And.right (And.right (And.right (And.right (And.right (And.right (And.right (And.right (by assumption)))))))))) | exact qen (And.right (And.right (And.right (And.right (And.right (And.right (And.right (And.right (And.right (by assumption)))))))))) | exact rlt (And.right (And.right (And.right (And.right (And.right (And.right (And.right (And.right (And.right (by assumption)))))))))) | exact rgt (And.right (And.right (And.right (And.right (And.right (And.right (And.right (And.right (And.right (by assumption)))))))))) | exact rne (And.right (And.right (And.right (And.right (And.right (And.right (And.right (And.right (And.right (by assumption)))))))))) | exact ren (And.right (And.right (And.right (And.right (And.right (And.right (And.right (And.right (And.right (by assumption)))))))))) | exact qlt (And.right (And.right (And.right (And.right (And.right (And.right (And.right (And.right (And.right (And.right (by assumption))))))))))) | exact qgt (And.right (And.right (And.right (And.right (And.right (And.right (And.right (And.right (And.right (And.right (by assumption))))))))))) | exact qne (And.right (And.right (And.right (And.right (And.right (And.right (And.right (And.right (And.right (And.right (by assumption))))))))))) | exact qen (And.right (And.right (And.right (And.right (And.right (And.right (And.right (And.right (And.right (And.right (by assumption))))))))))) | exact rlt (And.right (And.right (And.right (And.right (And.right (And.right (And.right (And.right (And.right (And.right (by assumption))))))))))) | exact rgt (And.right (And.right (And.right (And.right (And.right (And.right (And.right (And.right (And.right (And.right (by assumption))))))))))) | exact rne (And.right (And.right (And.right (And.right (And.right (And.right (And.right (And.right (And.right (And.right (by assumption))))))))))) | exact ren (And.right (And.right (And.right (And.right (And.right (And.right (And.right (And.right (And.right (And.right (by assumption))))))))))) | exact qlt (And.right (And.right (And.right (And.right (And.right (And.right (And.right (And.right (And.right (And.right (And.right (by assumption)))))))))))) | exact qgt (And.right (And.right (And.right (And.right (And.right (And.right (And.right (And.right (And.right (And.right (And.right (by assumption)))))))))))) | exact qne (And.right (And.right (And.right (And.right (And.right (And.right (And.right (And.right (And.right (And.right (And.right (by assumption)))))))))))) | exact qen (And.right (And.right (And.right (And.right (And.right (And.right (And.right (And.right (And.right (And.right (And.right (by assumption)))))))))))) | exact rlt (And.right (And.right (And.right (And.right (And.right (And.right (And.right (And.right (And.right (And.right (And.right (by assumption)))))))))))) | exact rgt (And.right (And.right (And.right (And.right (And.right (And.right (And.right (And.right (And.right (And.right (And.right (by assumption)))))))))))) | exact rne (And.right (And.right (And.right (And.right (And.right (And.right (And.right (And.right (And.right (And.right (And.right (by assumption)))))))))))) | exact ren (And.right (And.right (And.right (And.right (And.right (And.right (And.right (And.right (And.right (And.right (And.right (by assumption)))))))))))) | exact qlt (And.right (And.right (And.right (And.right (And.right (And.right (And.right (And.right (And.right (And.right (And.right (And.right (by assumption))))))))))))) | exact qgt (And.right (And.right (And.right (And.right (And.right (And.right (And.right (And.right (And.right (And.right (And.right (And.right (by assumption))))))))))))) | exact qne (And.right (And.right (And.right (And.right (And.right (And.right (And.right (And.right (And.right (And.right (And.right (And.right (by assumption))))))))))))) | exact qen (And.right (And.right (And.right (And.right (And.right (And.right (And.right (And.right (And.right (And.right (And.right (And.right (by assumption))))))))))))) | exact rlt (And.right (And.right (And.right (And.right (And.right (And.right (And.right (And.right (And.right (And.right (And.right (And.right (by assumption))))))))))))) | exact rgt (And.right (And.right (And.right (And.right (And.right (And.right (And.right (And.right (And.right (And.right (And.right (And.right (by assumption))))))))))))) | exact rne (And.right (And.right (And.right (And.right (And.right (And.right (And.right (And.right (And.right (And.right (And.right (And.right (by assumption))))))))))))) | exact ren (And.right (And.right (And.right (And.right (And.right (And.right (And.right (And.right (And.right (And.right (And.right (And.right (by assumption))))))))))))) | exact qlt (And.right (And.right (And.right (And.right (And.right (And.right (And.right (And.right (And.right (And.right (And.right (And.right (And.right (by assumption)))))))))))))) | exact qgt (And.right (And.right (And.right (And.right (And.right (And.right (And.right (And.right (And.right (And.right (And.right (And.right (And.right (by assumption)))))))))))))) | exact qne (And.right (And.right (And.right (And.right (And.right (And.right (And.right (And.right (And.right (And.right (And.right (And.right (And.right (by assumption)))))))))))))) | exact qen (And.right (And.right (And.right (And.right (And.right (And.right (And.right (And.right (And.right (And.right (And.right (And.right (And.right (by assumption)))))))))))))) | exact rlt (And.right (And.right (And.right (And.right (And.right (And.right (And.right (And.right (And.right (And.right (And.right (And.right (And.right (by assumption)))))))))))))) | exact rgt (And.right (And.right (And.right (And.right (And.right (And.right (And.right (And.right (And.right (And.right (And.right (And.right (And.right (by assumption)))))))))))))) | exact rne (And.right (And.right (And.right (And.right (And.right (And.right (And.right (And.right (And.right (And.right (And.right (And.right (And.right (by assumption)))))))))))))) | exact ren (And.right (And.right (And.right (And.right (And.right (And.right (And.right (And.right (And.right (And.right (And.right (And.right (And.right (by assumption)))))))))))))) | exact qlt (And.right (And.right (And.right (And.right (And.right (And.right (And.right (And.right (And.right (And.right (And.right (And.right (And.right (And.right (by assumption))))))))))))))) | exact qgt (And.right (And.right (And.right (And.right (And.right (And.right (And.right (And.right (And.right (And.right (And.right (And.right (And.right (And.right (by assumption))))))))))))))) | exact qne (And.right (And.right (And.right (And.right (And.right (And.right (And.right (And.right (And.right (And.right (And.right (And.right (And.right (And.right (by assumption))))))))))))))) | exact qen (And.right (And.right (And.right (And.right (And.right (And.right (And.right (And.right (And.right (And.right (And.right (And.right (And.right (And.right (by assumption))))))))))))))) | exact rlt (And.right (And.right (And.right (And.right (And.right (And.right (And.right (And.right (And.right (And.right (And.right (And.right (And.right (And.right (by assumption))))))))))))))) | exact rgt (And.right (And.right (And.right (And.right (And.right (And.right (And.right (And.right (And.right (And.right (And.right (And.right (And.right (And.right (by assumption))))))))))))))) | exact rne (And.right (And.right (And.right (And.right (And.right (And.right (And.right (And.right (And.right (And.right (And.right (And.right (And.right (And.right (by assumption))))))))))))))) | exact ren (And.right (And.right (And.right (And.right (And.right (And.right (And.right (And.right (And.right (And.right (And.right (And.right (And.right (And.right (by assumption))))))))))))))) | exact qlt (And.right (And.right (And.right (And.right (And.right (And.right (And.right (And.right (And.right (And.right (And.right (And.right (And.right (And.right (And.right (by assumption)))))))))))))))) | exact qgt (And.right (And.right (And.right (And.right (And.right (And.right (And.right (And.right (And.right (And.right (And.right (And.right (And.right (And.right (And.right (by assumption)))))))))))))))) | exact qne (And.right (And.right (And.right (And.right (And.right (And.right (And.right (And.right (And.right (And.right (And.right (And.right (And.right (And.right (And.right (by assumption)))))))))))))))) | exact qen (And.right (And.right (And.right (And.right (And.right (And.right (And.right (And.right (And.right (And.right (And.right (And.right (And.right (And.right (And.right (by assumption)))))))))))))))) | exact rlt (And.right (And.right (And.right (And.right (And.right (And.right (And.right (And.right (And.right (And.right (And.right (And.right (And.right (And.right (And.right (by assumption)))))))))))))))) | exact rgt (And.right (And.right (And.right (And.right (And.right (And.right (And.right (And.right (And.right (And.right (And.right (And.right (And.right (And.right (And.right (by assumption)))))))))))))))) | exact rne (And.right (And.right (And.right (And.right (And.right (And.right (And.right (And.right (And.right (And.right (And.right (And.right (And.right (And.right (And.right (by assumption)))))))))))))))) | exact ren (And.right (And.right (And.right (And.right (And.right (And.right (And.right (And.right (And.right (And.right (And.right (And.right (And.right (And.right (And.right (by assumption))))))))))))))))))
  trivial
theorem layKc09b2 : True := by
  k_with "mine texts" => ((try dsimp only [← sx0, ← sx1, ← sx2, ← sx3, ← sx4, ← sx5, ← sx6, ← sx7, ← sx8, ← sx9, ← sx10, ← sx11, ← sx12, ← sx13, ← sx14, ← sx15, ← sx16, ← sx17, ← sx18, ← sx19, ← sx20, ← sx21, ← sx22, ← sx23, ← sx24, ← sx25, ← sx26, ← sx27, ← sx28, ← sx29, ← sx30, ← sx31, ← sx32, ← sx33, ← sx34, ← sx35, ← sx36, ← sx37, ← sx38, ← sx39, ← sx40, ← sx41, ← sx42, ← sx43, ← sx44, ← sx45, ← sx46, ← sx47, ← sx48, ← sx49, ← sx50, ← sx51, ← sx52, ← sx53, ← sx54, ← sx55, ← sx56, ← sx57, ← sx58, ← sx59, ← sx60, ← sx61, ← sx62, ← sx63, ← sx64, ← sx65, ← sx66, ← sx67, ← sx68, ← sx69, ← sx70, ← sx71, ← sx72, ← sx73, ← sx74, ← sx75, ← sx76, ← sx77, ← sx78, ← sx79, ← sx80, ← sx81, ← sx82, ← sx83, ← sx84, ← sx85, ← sx86, ← sx87, ← sx88, ← sx89, ← sx90, ← sx91, ← sx92, ← sx93, ← sx94, ← sx95, ← sx96, ← sx97, ← sx98, ← sx99, ← sx100, ← sx101, ← sx102, ← sx103, ← sx104, ← sx105, ← sx106, ← sx107, ← sx108, ← sx109, ← sx110, ← sx111, ← sx112, ← sx113]))
  k_with "mine drop" => (first | (refine' Drop.head ?a; (case a => k_all)) | (refine' Drop.tail ?a ?b; (case a => k_ne); (case b => walk_at "mine drop")))
  k_with "setAttr ref" => ((k_here; k_dflt (first | (refine' exc_set0 ?k1 ?k2 ?k3 ?k4 ?k5 ?k6 ?k7 ?k8 ?k9 ?_; (case k1 => k_asm); (case k2 => k_asm); (case k3 => k_asm); (case k4 => k_mem); (case k5 => k_is); (case k6 => kernel_rfl); (case k7 => k_is); (case k8 => k_is); (case k9 => intro zqd; k_upd); k_whole; intro zqdp zqhp zqFp zqNp zql1; (try k_lt zql1)) | (refine' exc_set_args ?k1 ?k2 ?k3 ?k4 ?k5 ?k6 ?k7 ?k8 ?k9 ?k10 ?_; (case k1 => k_asm); (case k2 => k_asm); (case k3 => k_asm); (case k4 => first | (refine' InstAt.of_exc ?N ?h1 ?h2; (case N => k_asm); (case h1 => k_mem); (case h2 => k_mem)) | (refine' InstAt.of_exc0 ?N ?h1; (case N => k_asm); (case h1 => k_mem))); (case k5 => exact isTup_of (by k_asm) (by k_mem)); (case k6 => k_is); (case k7 => kernel_rfl); (case k8 => k_is); (case k9 => k_is); (case k10 => k_upd); k_whole; intro zqhp zqFp zqNp) | (refine' exc_set ?k1 ?k2 ?k3 ?k4 ?k5 ?k6 ?k7 ?k8 ?k9 ?k10 ?k11 ?k12 ?_; (case k1 => k_asm); (case k2 => k_asm); (case k3 => k_asm); (case k4 => first | (refine' InstAt.of_exc ?N ?h1 ?h2; (case N => k_asm); (case h1 => k_mem); (case h2 => k_mem)) | (refine' InstAt.of_exc0 ?N ?h1; (case N => k_asm); (case h1 => k_mem))); (case k5 => k_is); (case k6 => kernel_rfl); (case k7 => k_is); (case k8 => k_is); (case k9 => k_get); (case k10 => k_put); (case k11 => k_upd); (case k12 => exact Nat.le_of_ble_eq_true rfl); k_whole; intro zqhp zqFp zqNp))))
  k_with "call builtin:Exception.__init__" => ((k_here; k_dflt (refine' exc_init_call ?k1 ?k2 ?k3 ?k4 ?k5 ?k6 ?_; (case k1 => k_asm); (case k2 => k_asm); (case k3 => k_asm); (case k4 => first | (refine' InstAt.of_exc ?N ?h1 ?h2; (case N => k_asm); (case h1 => k_mem); (case h2 => k_mem)) | (refine' InstAt.of_exc0 ?N ?h1; (case N => k_asm); (case h1 => k_mem))); (case k5 => k_is); (case k6 => intro zqt; k_upd); k_whole; intro zqtp zqhp zqFp zqNp zql1; (try k_lt zql1))))
  k_with "call builtin:repr" => ((k_here; k_dflt (refine' repr_use ?k1 ?k2 ?k3 ?k4 ?k5 ?k6 ?k7 ?_; (case k1 => assumption); (case k2 => k_asm); (case k3 => k_asm); (case k4 => exact rfl); (case k5 => exact rfl); (case k6 => exact Nat.le_of_ble_eq_true rfl); (case k7 => exact Nat.le_of_ble_eq_true rfl); k_whole; intro zqhp zqup zqtkp zqFp zqNp)))
  k_with "BackIn" => ((k_dflt (refine' back_ ?k1 ?k2 ?k3 ?_; (case k1 => k_asm); (case k2 => k_asm); (case k3 => walk_at "mine drop"); k_whole; intro zqFp zqNp; (try dsimp only))))
  k_with "call ref" => ((k_here; k_dflt (refine wpAny_call ?_; refine' enter_in ?k1 ?k2 ?k3 ?k4 ?k5 ?k6 ?k7 ?k8 ?kB ?c2 ?c3 ?c4 ?c5 ?_; (case k1 => k_asm); (case k2 => k_asm); (case k3 => k_asm); (case k4 => exact Top.nolimit (by assumption)); (case k5 => k_is); (case k6 => k_is); (case k7 => exact Nat.le_of_ble_eq_true rfl); (case k8 => first | ((with_reducible show BindsTo _ _ ⟨[_], []⟩ _); first | exact BindsTo.of_eq (binds := [(_, _)]) rfl | exact binds_K (binds := [(_, _)]) (by k_in) rfl (by k_is) rfl rfl rfl) | ((with_reducible show BindsTo _ _ ⟨[_, _], []⟩ _); first | exact BindsTo.of_eq (binds := [(_, _), (_, _)]) rfl | exact binds_K (binds := [(_, _), (_, _)]) (by k_in) rfl (by k_is) rfl rfl rfl) | ((with_reducible show BindsTo _ _ ⟨[_, _, _], []⟩ _); first | exact BindsTo.of_eq (binds := [(_, _), (_, _), (_, _)]) rfl | exact binds_K (binds := [(_, _), (_, _), (_, _)]) (by k_in) rfl (by k_is) rfl rfl rfl) | ((with_reducible show BindsTo _ _ ⟨[_, _, _, _], []⟩ _); first | exact BindsTo.of_eq (binds := [(_, _), (_, _), (_, _), (_, _)]) rfl | exact binds_K (binds := [(_, _), (_, _), (_, _), (_, _)]) (by k_in) rfl (by k_is) rfl rfl rfl) | ((with_reducible show BindsTo _ _ ⟨[_, _, _, _, _], []⟩ _); first | exact BindsTo.of_eq (binds := [(_, _), (_, _), (_, _), (_, _), (_, _)]) rfl | exact binds_K (binds := [(_, _), (_, _), (_, _), (_, _), (_, _)]) (by k_in) rfl (by k_is) rfl rfl rfl)); (case c5 => decide); (case kB => exact locs rfl); (case c2 => exact rfl); (case c3 => exact rfl); (case c4 => exact rfl); k_whole; intro zqoLp zqLp zqhp zqtkp zqFp zqNp zql1 zqn1; (try k_lt zql1); (try (replace zqn1 := allNe_of zqn1; simp only [AllNe, and_true] at zqn1)); (try dsimp only); walk_at "mine texts")))
  k_with "call builtin:str.join" => ((k_here; (with_reducible show wpAny _ _ (call (Value.builtin "str.join") [Value.str _ _, Value.ref _]) _ _ _); k_dflt (refine join_listC (by is_list) (by repeat constructor) (by decide) (by (simp only [List.map_cons, List.map_nil, List.sum_cons, List.sum_nil, List.length_cons, List.length_nil]; omega)) ?_); intro zqtp zqkp))
  k_with "getMethod type:Exception" => ((k_here; refine' method_type ?F ?X ?m (by decide +kernel) ?e ?h ?_; (case F => k_asm); (case X => k_asm); (case m => exact meta_Exception); (case e => k_dflt k_is); (case h => k_handed)))
  k_with "compareOp IsNot" => ((k_here; k_dflt (refine isNot_none (by assumption) ?_)))
  k_with "call builtin:str.format" => ((k_here; k_dflt (refine' line_use ?k1 ?k2 ?k3 ?k4 ?k5 ?k6 ?k7 ?_; (case k1 => assumption); (case k2 => k_asm); (case k3 => k_asm); (case k4 => exact rfl); (case k5 => exact rfl); (case k6 => exact Nat.le_of_ble_eq_true rfl); (case k7 => exact Nat.le_of_ble_eq_true rfl); k_whole; intro zqhp zqup zqtkp zqFp zqNp)))
  k_with "call builtin:str.format" => ((k_here; (with_reducible show wpAny _ _ (call (Value.builtin "str.format") [Value.str _ _, _, _, _, _]) _ _ _); k_dflt (refine' fmt_use ?k1 ?k2 ?k3 ?k4 ?k5 ?_; (case k1 => k_asm); (case k2 => k_asm); (case k3 => exact ⟨rfl, rfl, Nat.le_of_ble_eq_true rfl, Nat.le_of_ble_eq_true rfl⟩); (case k4 => exact args_5 _ _ _ _ _); (case k5 => walk_at "mine fmt")); k_whole; intro zqhp zqup zqtkp zqFp zqNp))
  k_with "pyReprObj" => ((k_here; k_dflt (refine' reprObj_use ?k1 ?k2 ?k3 ?k4 ?k5 ?k6 ?k7 ?_; (case k1 => assumption); (case k2 => k_asm); (case k3 => k_asm); (case k4 => exact rfl); (case k5 => exact rfl); (case k6 => exact Nat.le_of_ble_eq_true rfl); (case k7 => exact Nat.le_of_ble_eq_true rfl); k_whole; intro zqhp zqup zqtkp zqFp zqNp)))
  k_with "call ref" => ((k_here; (with_reducible show wpAny _ _ (call (Value.ref 29) [Value.ref _, Value.str _ _]) _ _ _); k_dflt (refine' errIni ?k1 ?k2 ?k3 ?k4 ?k5 ?k6 ?k7 ?_; (case k1 => k_asm); (case k2 => k_asm); (case k3 => assumption); (case k4 => k_asm); (case k5 => k_updF); (case k6 => kernel_rfl); (case k7 => exact Nat.le_of_ble_eq_true rfl)); k_whole; intro zqdp zqtp zqhp zqtkp zqukp zqFp zqNp zql1 zql2 zql3; (try dsimp only at zqNp); (try k_lt zql1); (try k_lt zql2)))
  k_with "mine fmt" => (exact fmtM_meets (by assumption) (by assumption) (by assumption) (by assumption))
  trivial
theorem conIM : ∀ {p : Program} {loose : List Str} {mean : ExcName → Option Value} {mg mb : Str → Option Value} (w : World) (s : Shared) (opt sec raw ref : Value) (ro : Str) (R0 : Rep PySem.Challenge.rw_dm0028_09.prog w s.heap opt ro) (rs : Str) (R1 : Rep PySem.Challenge.rw_dm0028_09.prog w s.heap sec rs) (rf : Str) (R2 : Rep PySem.Challenge.rw_dm0028_09.prog w s.heap ref rf) (rw : Str) (R3 : Rep PySem.Challenge.rw_dm0028_09.prog w s.heap raw rw)
    (Q E : Value → Shared → Prop) (KX : (hz.heap_188 w.params).In s.heap) (T : Top p loose mean mg mb s.heap)
    (hQ : ∀ h' tk e d ta od u, Grow s.heap h' → ErrNew s.heap h' 156 e d ta od (Str.ofString "Bad value substitution: option " ++ ro ++ Str.ofString " in section " ++ rs ++ Str.ofString " contains an interpolation key " ++ rf ++ Str.ofString " which is not a valid option name. Raw value: " ++ rw) u [("option", opt), ("section", sec), ("reference", ref)] [opt, sec, raw, ref] → Q (.ref e) { s with heap := h', toks := tk }),
    wpAny (model PySem.Challenge.rw_dm0028_09.prog w) (AD 600 2000) (call (.ref 156) [opt, sec, raw, ref]) Q E s := by
  w_top off
  k_fill
  intro p loose mean mg mb w s opt sec raw ref ro R0 rs R1 rf R2 rw R3 Q E KX T hQ
  obtain ⟨hh, g, dr, tk, os⟩ := s
  dsimp only at KX T R0 R1 R2 R3 hQ
  have O0 := R0.old
  have sq0 := R0.short
  have O1 := R1.old
  have sq1 := R1.short
  have O2 := R2.old
  have sq2 := R2.short
  have O3 := R3.old
  have sq3 := R3.short
  w_strict (
  refine wpAny_call ?_
  refine exc_make (KX 156 _ (by k_is)) (by decide +kernel) (by decide +kernel) (by decide +kernel) (looks_specialIn KX (by k_is)) (looks_instIn KX (by k_is)) (looks_findIn KX (by k_is)) (fun self => bind_fn KX self (by k_is)) (by size_fits) ?_
  k_dflt (refine' enter_new (h₀ := hh) (binds := [("self", .ref (hh.objs.size + 1)), ("option", opt), ("section", sec), ("rawval", raw), ("reference", ref)]) (news := [(hh.objs.size + 1, excObj 156 none hh.objs.size), (hh.objs.size, tupObj [opt, sec, raw, ref])]) ?k1 ?k2 KX T.nolimit ?k9 ?k5 ?k6 ?k7 ?k8 ?kB ?c2 ?c3 ?c4 ?c5 ?_; (case k5 => k_is); (case k6 => k_is); (case k7 => exact Nat.le_of_ble_eq_true rfl); (case k8 => first | exact BindsTo.of_eq rfl | exact binds_K (Frag.In.keeps KX (made_grow _ _ _)) rfl (by k_is) rfl rfl rfl); (case c5 => decide); (case kB => exact locs rfl); (case c2 => exact rfl); (case c3 => exact rfl); (case c4 => exact rfl); (case k1 => exact made_grow _ _ _); (case k2 => (simp; omega)); (case k9 => exact made_news _ _ _))
  intro L' h' tk' F' N' l1; k_lt l1
  walk_at "mine texts"
  k_steps
  refine ⟨rfl, ?_⟩
  (with_reducible rename Fr _ _ _ _ => Fz)
  (with_reducible rename News _ _ _ _ => Nz)
  refine hQ _ _ _ _ _ _ _ Fz.keep (err_close Nz (by k_mem) (by k_mem) (by k_mem) (Eq.trans (lookIn_dict _ _ _) (by k_get)) ?_)
  intro q hq
  simp only [List.mem_cons, List.not_mem_nil, or_false] at hq
  rcases hq with rfl | rfl | rfl <;> kernel_rfl)
theorem layKc09b3 : True := by
  k_with "mine fmt" => (exact fmtD_meets (by assumption) (by assumption) (by assumption))
  trivial
theorem conID : ∀ {p : Program} {loose : List Str} {mean : ExcName → Option Value} {mg mb : Str → Option Value} (w : World) (s : Shared) (opt sec raw : Value) (ro : Str) (R0 : Rep PySem.Challenge.rw_dm0028_09.prog w s.heap opt ro) (rs : Str) (R1 : Rep PySem.Challenge.rw_dm0028_09.prog w s.heap sec rs) (rw : Str) (R2 : Rep PySem.Challenge.rw_dm0028_09.prog w s.heap raw rw)
    (Q E : Value → Shared → Prop) (KX : (hz.heap_188 w.params).In s.heap) (T : Top p loose mean mg mb s.heap)
    (hQ : ∀ h' tk e d ta od u, Grow s.heap h' → ErrNew s.heap h' 175 e d ta od (Str.ofString "Recursion limit exceeded in value substitution: option " ++ ro ++ Str.ofString " in section " ++ rs ++ Str.ofString " contains an interpolation key which cannot be substituted in " ++ Str.ofString "10" ++ Str.ofString " steps. Raw value: " ++ rw) u [("option", opt), ("section", sec)] [opt, sec, raw] → Q (.ref e) { s with heap := h', toks := tk }),
    wpAny (model PySem.Challenge.rw_dm0028_09.prog w) (AD 600 2000) (call (.ref 175) [opt, sec, raw]) Q E s := by
  w_top off
  k_fill
  intro p loose mean mg mb w s opt sec raw ro R0 rs R1 rw R2 Q E KX T hQ
  obtain ⟨hh, g, dr, tk, os⟩ := s
  dsimp only at KX T R0 R1 R2 hQ
  have O0 := R0.old
  have sq0 := R0.short
  have O1 := R1.old
  have sq1 := R1.short
  have O2 := R2.old
  have sq2 := R2.short
  w_strict (
  refine wpAny_call ?_
  refine exc_make (KX 175 _ (by k_is)) (by decide +kernel) (by decide +kernel) (by decide +kernel) (looks_specialIn KX (by k_is)) (looks_instIn KX (by k_is)) (looks_findIn KX (by k_is)) (fun self => bind_fn KX self (by k_is)) (by size_fits) ?_
  k_dflt (refine' enter_new (h₀ := hh) (binds := [("self", .ref (hh.objs.size + 1)), ("option", opt), ("section", sec), ("rawval", raw)]) (news := [(hh.objs.size + 1, excObj 175 none hh.objs.size), (hh.objs.size, tupObj [opt, sec, raw])]) ?k1 ?k2 KX T.nolimit ?k9 ?k5 ?k6 ?k7 ?k8 ?kB ?c2 ?c3 ?c4 ?c5 ?_; (case k5 => k_is); (case k6 => k_is); (case k7 => exact Nat.le_of_ble_eq_true rfl); (case k8 => first | exact BindsTo.of_eq rfl | exact binds_K (Frag.In.keeps KX (made_grow _ _ _)) rfl (by k_is) rfl rfl rfl); (case c5 => decide); (case kB => exact locs rfl); (case c2 => exact rfl); (case c3 => exact rfl); (case c4 => exact rfl); (case k1 => exact made_grow _ _ _); (case k2 => (simp; omega)); (case k9 => exact made_news _ _ _))
  intro L' h' tk' F' N' l1; k_lt l1
  walk_at "mine texts"
  k_steps
  refine ⟨rfl, ?_⟩
  (with_reducible rename Fr _ _ _ _ => Fz)
  (with_reducible rename News _ _ _ _ => Nz)
  refine hQ _ _ _ _ _ _ _ Fz.keep (err_close Nz (by k_mem) (by k_mem) (by k_mem) (Eq.trans (lookIn_dict _ _ _) (by k_get)) ?_)
  intro q hq
  simp only [List.mem_cons, List.not_mem_nil, or_false] at hq
  rcases hq with rfl | rfl <;> kernel_rfl)
end
section
theorem layKc09c1 : True := by
  k_with_none
  k_with "ne" => (with_reducible (first | exact ns1 | exact ns2 | exact qlt (by assumption) | exact qgt (by assumption) | exact qne (by assumption) | exact qen (by assumption) | exact rlt (by assumption) | exact rgt (by assumption) | exact rne (by assumption) | exact ren (by assumption) | exact qlt (And.right (by assumption)) | exact qgt (And.right (by assumption)) | exact qne (And.right (by assumption)) | exact qen (And.right (by assumption)) | exact rlt (And.right (by assumption)) | exact rgt (And.right (by assumption)) | exact rne (And.right (by assumption)) | exact ren (And.right (by assumption)) | exact qlt (And.right (And.right (by assumption))) | exact qgt (And.right (And.right (by assumption))) | exact qne (And.right (And.right (by assumption))) | exact qen (And.right (And.right (by assumption))) | exact rlt (And.right (And.right (by assumption))) | exact rgt (And.right (And.right (by assumption))) | exact rne (And.right (And.right (by assumption))) | exact ren (And.right (And.right (by assumption))) | exact qlt (And.right (And.right (And.right (by assumption)))) | exact qgt (And.right (And.right (And.right (by assumption)))) | exact qne (And.right (And.right (And.right (by assumption)))) | exact qen (And.right (And.right (And.right (by assumption)))) | exact rlt (And.right (And.right (And.right (by assumption)))) | exact rgt (And.right (And.right (And.right (by assumption)))) | exact rne (And.right (And.right (And.right (by assumption)))) | exact ren (And.right (And.right (And.right (by assumption)))) | exact qlt (And.right (And.right (And.right (And.right (by assumption))))) | exact qgt (And.right (And.right (And.right (And.right (by assumption))))) | exact qne (And.right (And.right (And.right (And.right (by assumption))))) | exact qen (And.right (And.right (And.right (And.right (by assumption))))) | exact rlt (And.right (And.right (And.right (And.right (by assumption))))) | exact rgt (And.right (And.right (And.right (And.right (by assumption))))) | exact rne (And.right (And.right (And.right (And.right (by assumption))))) | exact ren (And.right (And.right (And.right (And.right (by assumption))))) | exact qlt (And.right (And.right (And.right (And.right (And.right (by assumption)))))) | exact qgt (And.right (And.right (And.right (And.right (And.right (by assumption)))))) | exact qne (And.right (And.right (And.right (And.right (And.right (by assumption)))))) | exact qen (And.right (And.right (And.right (And.right (And.right (by assumption)))))) | exact rlt (And.right (And.right (And.right (And.right (And.right (by assumption)))))) | exact rgt (And.right (And.right (And.right (And.right (And.right (by assumption)))))) | exact rne (And.right (And.right (And.right (And.right (And.right (by assumption)))))) | exact ren (And.right (And.right (And.right (And.right (And.right (by assumption)))))) | exact qlt (And.right (And.right (And.right (And.right (And.right (And.right (by assumption))))))) | exact qgt (And.right (And.right (And.right (And.right (And.right (And.right (by assumption))))))) | exact qne (And.right (And.right (And.right (And.right (And.right (And.right (by assumption))))))) | exact qen (And.right (And.right (And.right (And.right (And.right (And.right (by assumption))))))) | exact rlt (And.right (And.right (And.right (And.right (And.right (And.right (by assumption))))))) | exact rgt (And.right (And.right (And.right (And.right (And.right (And.right (by assumption))))))) | exact rne (And.right (And.right (And.right (And.right (And.right (And.right (by assumption))))))) | exact ren (And.right (And.right (And.right (And.right (And.right (And.right (by assumption))))))) | exact qlt (And.right (And.right (And.right (And.right (And.right (And.right (And.right (by assumption)))))))) | exact qgt (And.right (And.right (And.right (And.right (And.right (And.right (And.right (by assumption)))))))) | exact qne (And.right (And.right (And.right (And.right (And.right (And.right (And.right (by assumption)))))))) | exact qen (And.right (And.right (And.right (And.right (And.right (And.right (And.right (by assumption)))))))) | exact rlt (And.right (And.right (And.right (And.right (And.right (And.right (And.right (by assumption)))))))) | exact rgt (And.right (And.right (And.right (And.right (And.right (And.right (And.right (by assumption)))))))) | exact rne (And.right (And.right (And.right (And.right (And.right (And.right (And.right (by assumption)))))))) | exact ren (And.right (And.right (And.right (And.right (And.right (And.right (And.right (by assumption)))))))) | exact qlt (And.right (And.right (And.right (And.right (And.right (And.right (And.right (And.right (by assumption))))))))) | exact qgt (And.right (And.right (And.right (And.right (And.right (And.right (And.right (And.right (by assumption))))))))) | exact qne (And.right (And.right (And.right (And.right (And.right (And.right (And.right (And.right (by assumption))))))))) | exact qen (And.right (And.right (And.right (And.right (And.right (And.right (And.right (And.right (by assumption))))))))) | exact rlt (And.right (And.right (And.right (And.right (And.right (And.right (And.right (And.right (by assumption))))))))) | exact rgt (And.right (And.right (And.right (And.right (And.right (And.right (And.right (And.right (by assumption))))))))) | exact rne (And.right (And.right (And.right (And.right (And.right (And.right (And.right (And.right (by assumption))))))))) | exact ren (And.right (And.right (And.right (And.right (And.right (And.right (And.right (And.right (by assumption))))))))) | exact qlt (And.right (And.right (And.right (And.right (And.right (And.right (And.right (And.right (And.right (by assumption)))))))))) | exact qgt (And.right (And.right (And.right (And.right (And.right (And.right (And.right (And.right (And.right (by assumption)))))))))) | exact qne (And.right (And.right (And.right (And.right (And.right (And.right (And.right (And.right (And.right (by assumption)))))))))) | exact qen (And.right (And.right (And.right (And.right (And.right (And.right (And.right (And.right (And.right (by assumption)))))))))) | exact rlt (And.right (And.right (And.right (And.right (And.right (And.right (And.right (And.right (And.right (by assumption)))))))))) | exact rgt (And.right (And.right (And.right (And.right (And.right (And.right (And.right (And.right (And.right (by assumption)))))))))) | exact rne (And.right (And.right (And.right (And.right (And.right (And.right (And.right (And.right (And.right (by assumption)))))))))) | exact ren (And.right (And.right (And.right (And.right (And.right (And.right (And.right (And.right (And.right (by assumption)))))))))) | exact qlt (And.right (And.right (And.right (And.right (And.right (And.right (And.right (And.right (And.right (And.right (by assumption))))))))))) | exact qgt (And.right (And.right (And.right (And.right (And.right (And.right (And.right (And.right (And.right (And.right (by assumption))))))))))) | exact qne (And.right (And.right (And.right (And.right (And.right (And.right (And.right (And.right (And.right (And.right (by assumption))))))))))) | exact qen (And.right (And.right (And.right (And.right (And.right (And.right (And.right (And.right (And.right (And.right (by assumption))))))))))) | exact rlt (And.right (And.right (And.right (And.right (And.right (And.right (And.right (And.right (And.right (And.right (by assumption))))))))))) | exact rgt (And.right (And.right (And.right (And.right (And.right (And.right (And.right (And.right (And.right (And.right (by assumption))))))))))) | exact rne (And.right (And.right (And.right (And.right (And.right (And.right (And.right (And.right (And.right (And.right (by assumption))))))))))) | exact ren (And.right (And.right (And.right (And.right (And.right (And.right (And.right (And.right (And.right (And.right (by assumption))))))))))) | exact qlt (And.right (And.right (And.right (And.right (And.right (And.right (And.right (And.right (And.right (And.right (And.right (by assumption)))))))))))) | exact qgt (And.right (And.right (And.right (And.right (And.right (And.right (And.right (And.right (And.right (And.right (And.right (by assumption)))))))))))) | exact qne (And.right (And.right (And.right (And.right (And.right (And.right (And.right (And.right (And.right (And.right (And.right (by assumption)))))))))))) | exact qen (And.right (And.right (And.right (And.right (And.right (And.right (And.right (And.right (And.right (And.right (And.right (by assumption)))))))))))) | exact rlt (And.right (And.right (And.right (And.right (And.right (And.right (And.right (And.right (And.right (And.right (And.right (by assumption)))))))))))) | exact rgt (And.right (And.right (And.right (And.right (And.right (And.right (And.right (And.right (And.right (And.right (And.right (by assumption)))))))))))) | exact rne (And.right (And.right (And.right (And.right (And.right (And.right (And.right (And.right (And.right (And.right (And.right (by assumption)))))))))))) | exact ren (And.right (And.right (And.right (And.right (And.right (And.right (And.right (And.right (And.right (And.right (And.right (by assumption)))))))))))) | exact qlt (And.right (And.right (And.right (And.right (And.right (And.right (And.right (And.right (And.right (And.right (And.right (And.right (by assumption))))))))))))) | exact qgt (And.right (And.right (And.right (And.right (And.right (And.right (And.right (And.right (And.right (And.right (And.right (And.right (by assumption))))))))))))) | exact qne (And.right (And.right (And.right (And.right (And.right (And.right (And.right (And.right (And.right (And.right (And.right (And.right (by assumption))))))))))))) | exact qen (And.right (And.right (And.right (And.right (And.right (And.right (And.right (And.right (And.right (And.right (And.right (And.right (by assumption))))))))))))) | exact rlt (And.right (And.right (And.right (And.right (And.right (And.right (And.right (And.right (And.right (And.right (And.right (And.right (by assumption))))))))))))) | exact rgt (And.right (And.right (And.right (And.right (And.right (And.right (And.right (And.right (And.right (And.right (And.right (And.right (by assumption))))))))))))) | exact rne (And.right (And.right (And.right (And.right (And.right (And.right (And.right (And.right (And.right (And.right (And.right (And.right (by assumption))))))))))))) | exact ren (And.right (And.right (And.right (And.right (And.right (And.right (And.right (And.right (And.right (And.right (And.right (And.right (by assumption))))))))))))) | exact qlt (And.right (And.right (And.right (And.right (And.right (And.right (And.right (And.right (And.right (And.right (And.right (And.right (And.right (by assumption)))))))))))))) | exact qgt (And.right (And.right (And.right (And.right (And.right (And.right (And.right (And.right (And.right (And.right (And.right (And.right (And.right (by assumption)))))))))))))) | exact qne (And.right (And.right (And.right (And.right (And.right (And.right (And.right (And.right (And.right (And.right (And.right (And.right (And.right (by assumption)))))))))))))) | exact qen (And.right (And.right (And.right (And.right (And.right (And.right (And.right (And.right (And.right (And.right (And.right (And.right (And.right (by assumption)))))))))))))) | exact rlt (And.right (And.right (And.right (And.right (And.right (And.right (And.right (And.right (And.right (And.right (And.right (And.right (And.right (by assumption)))))))))))))) | exact rgt (And.right (And.right (And.right (And.right (And.right (And.right (And.right (And.right (And.right (And.right (And.right (And.right (And.right (by assumption)))))))))))))) | exact rne (And.right (And.right (And.right (And.right (And.right (And.right (And.right (And.right (And.right (And.right (And.right (And.right (And.right (by assumption)))))))))))))) | exact ren (And.right (And.right (And.right (And.right (And.right (And.right (And.right (And.right (And.right (And.right (And.right (And.right (And.right (by assumption)))))))))))))) | exact qlt (And.right (And.right (And.right (And.right (And.right (And.right (And.right (And.right (And.right (And.right (And.right (And.right (And.right (And.right (by assumption))))))))))))))) | exact qgt (And.right (And.right (And.right (And.right (And.right (And.right (And.right (And.right (And.right (And.right (And.right (And.right (And.right (And.right (by assumption))))))))))))))) | exact qne (And.right (And.right (And.right (And.right (And.right (And.right (And.right (And.right (And.right (And.right (And.right (And.right (And.right (And.right (by assumption))))))))))))))) | exact qen (And.right (And.right (And.right (And.right (And.right (And.right (And.right (And.right (And.right (And.right (And.right (And.right (And.right (And.right (by assumption))))))))))))))) | exact rlt (And.right (And.right (And.right (And.right (And.right (And.right (And.right (And.right (And.right (And.right (And.right (And.right (And.right (And.right (by assumption))))))))))))))) | exact rgt (And.right (And.right (And.right (And.right (And.right (And.right (And.right (And.right (And.right (And.right (And.right (And.right (And.right (And.right (by assumption))))))))))))))) | exact rne (And.right (And.right (And.right (And.right (And.right (And.right (And.right (And.right (And.right (And.right (And.right (And.right (And.right (And.right (by assumption))))))))))))))) | exact ren (And.right (And.right (And.right (And.right (And.right (And.right (And.right (And.right (And.right (And.right (And.right (And.right (And.right (And.right (by assumption))))))))))))))) | exact qlt (And.right (And.right (And.right (And.right (And.right (And.right (And.right (And.right (And.right (And.right (And.right (And.right (And.right (And.right (And.right (by assumption)))))))))))))))) | exact qgt (And.right (And.right (And.right (And.right (And.right (And.right (And.right (And.right (And.right (And.right (And.right (And.right (And.right (And.right (And.right (by assumption)))))))))))))))) | exact qne (And.right (And.right (And.right (And.right (And.right (And.right (And.right (And.right (And.right (And.right (And.right (And.right (And.right (And.right (And.right (by assumption)))))))))))))))) | exact qen (And.right (And.right (And.right (And.right (And.right (And.right (And.right (And.right (And.right (And.right (And.right (And.right (And.right (And.right (And.right (by assumption)))))))))))))))) | exact rlt (And.right (And.right (And.right (And.right (And.right (And.right (And.right (And.right (And.right (And.right (And.right (And.right (And.right (And.right (And.right (by assumption)))))))))))))))) | exact rgt (And.right (And.right (And.right (And.right (And.right (And.right (And.right (And.right (And.right (And.right (And.right (And.right (And.right (And.right (And.right (by assumption)))))))))))))))) | exact rne (And.right (And.right (And.right (And.right (And.right (And.right (And.right (And.right (And.right (And.right (And.right (And.right (And.right (And.right (And.right (by assumption)))))))))))))))) | exact ren (And.right (And.right (And.right (And.right (And.right (And.right (And.right (And.right (And.right (And.right (And.right (And.right (And.right (And.right (And.right (by assumption))))))))))))))))))
  trivial
theorem layKc09c2 : True := by
  k_with "mine texts" => ((try dsimp only [← sx0, ← sx1, ← sx2, ← sx3, ← sx4, ← sx5, ← sx6, ← sx7, ← sx8, ← sx9, ← sx10, ← sx11, ← sx12, ← sx13, ← sx14, ← sx15, ← sx16, ← sx17, ← sx18, ← sx19, ← sx20, ← sx21, ← sx22, ← sx23, ← sx24, ← sx25, ← sx26, ← sx27, ← sx28, ← sx29, ← sx30, ← sx31, ← sx32, ← sx33, ← sx34, ← sx35, ← sx36, ← sx37, ← sx38, ← sx39, ← sx40, ← sx41, ← sx42, ← sx43, ← sx44, ← sx45, ← sx46, ← sx47, ← sx48, ← sx49, ← sx50, ← sx51, ← sx52, ← sx53, ← sx54, ← sx55, ← sx56, ← sx57, ← sx58, ← sx59, ← sx60, ← sx61, ← sx62, ← sx63, ← sx64, ← sx65, ← sx66, ← sx67, ← sx68, ← sx69, ← sx70, ← sx71, ← sx72, ← sx73, ← sx74, ← sx75, ← sx76, ← sx77, ← sx78, ← sx79, ← sx80, ← sx81, ← sx82, ← sx83, ← sx84, ← sx85, ← sx86, ← sx87, ← sx88, ← sx89, ← sx90, ← sx91, ← sx92, ← sx93, ← sx94, ← sx95, ← sx96, ← sx97, ← sx98, ← sx99, ← sx100, ← sx101, ← sx102, ← sx103, ← sx104, ← sx105, ← sx106, ← sx107, ← sx108, ← sx109, ← sx110, ← sx111, ← sx112, ← sx113]))
  k_with "mine drop" => (first | (refine' Drop.head ?a; (case a => k_all)) | (refine' Drop.tail ?a ?b; (case a => k_ne); (case b => walk_at "mine drop")))
  k_with "setAttr ref" => ((k_here; k_dflt (first | (refine' exc_set0 ?k1 ?k2 ?k3 ?k4 ?k5 ?k6 ?k7 ?k8 ?k9 ?_; (case k1 => k_asm); (case k2 => k_asm); (case k3 => k_asm); (case k4 => k_mem); (case k5 => k_is); (case k6 => kernel_rfl); (case k7 => k_is); (case k8 => k_is); (case k9 => intro zqd; k_upd); k_whole; intro zqdp zqhp zqFp zqNp zql1; (try k_lt zql1)) | (refine' exc_set_args ?k1 ?k2 ?k3 ?k4 ?k5 ?k6 ?k7 ?k8 ?k9 ?k10 ?_; (case k1 => k_asm); (case k2 => k_asm); (case k3 => k_asm); (case k4 => first | (refine' InstAt.of_exc ?N ?h1 ?h2; (case N => k_asm); (case h1 => k_mem); (case h2 => k_mem)) | (refine' InstAt.of_exc0 ?N ?h1; (case N => k_asm); (case h1 => k_mem))); (case k5 => exact isTup_of (by k_asm) (by k_mem)); (case k6 => k_is); (case k7 => kernel_rfl); (case k8 => k_is); (case k9 => k_is); (case k10 => k_upd); k_whole; intro zqhp zqFp zqNp) | (refine' exc_set ?k1 ?k2 ?k3 ?k4 ?k5 ?k6 ?k7 ?k8 ?k9 ?k10 ?k11 ?k12 ?_; (case k1 => k_asm); (case k2 => k_asm); (case k3 => k_asm); (case k4 => first | (refine' InstAt.of_exc ?N ?h1 ?h2; (case N => k_asm); (case h1 => k_mem); (case h2 => k_mem)) | (refine' InstAt.of_exc0 ?N ?h1; (case N => k_asm); (case h1 => k_mem))); (case k5 => k_is); (case k6 => kernel_rfl); (case k7 => k_is); (case k8 => k_is); (case k9 => k_get); (case k10 => k_put); (case k11 => k_upd); (case k12 => exact Nat.le_of_ble_eq_true rfl); k_whole; intro zqhp zqFp zqNp))))
  k_with "call builtin:Exception.__init__" => ((k_here; k_dflt (refine' exc_init_call ?k1 ?k2 ?k3 ?k4 ?k5 ?k6 ?_; (case k1 => k_asm); (case k2 => k_asm); (case k3 => k_asm); (case k4 => first | (refine' InstAt.of_exc ?N ?h1 ?h2; (case N => k_asm); (case h1 => k_mem); (case h2 => k_mem)) | (refine' InstAt.of_exc0 ?N ?h1; (case N => k_asm); (case h1 => k_mem))); (case k5 => k_is); (case k6 => intro zqt; k_upd); k_whole; intro zqtp zqhp zqFp zqNp zql1; (try k_lt zql1))))
  k_with "call builtin:repr" => ((k_here; k_dflt (refine' repr_use ?k1 ?k2 ?k3 ?k4 ?k5 ?k6 ?k7 ?_; (case k1 => assumption); (case k2 => k_asm); (case k3 => k_asm); (case k4 => exact rfl); (case k5 => exact rfl); (case k6 => exact Nat.le_of_ble_eq_true rfl); (case k7 => exact Nat.le_of_ble_eq_true rfl); k_whole; intro zqhp zqup zqtkp zqFp zqNp)))
  k_with "BackIn" => ((k_dflt (refine' back_ ?k1 ?k2 ?k3 ?_; (case k1 => k_asm); (case k2 => k_asm); (case k3 => walk_at "mine drop"); k_whole; intro zqFp zqNp; (try dsimp only))))
  k_with "call ref" => ((k_here; k_dflt (refine wpAny_call ?_; refine' enter_in ?k1 ?k2 ?k3 ?k4 ?k5 ?k6 ?k7 ?k8 ?kB ?c2 ?c3 ?c4 ?c5 ?_; (case k1 => k_asm); (case k2 => k_asm); (case k3 => k_asm); (case k4 => exact Top.nolimit (by assumption)); (case k5 => k_is); (case k6 => k_is); (case k7 => exact Nat.le_of_ble_eq_true rfl); (case k8 => first | ((with_reducible show BindsTo _ _ ⟨[_], []⟩ _); first | exact BindsTo.of_eq (binds := [(_, _)]) rfl | exact binds_K (binds := [(_, _)]) (by k_in) rfl (by k_is) rfl rfl rfl) | ((with_reducible show BindsTo _ _ ⟨[_, _], []⟩ _); first | exact BindsTo.of_eq (binds := [(_, _), (_, _)]) rfl | exact binds_K (binds := [(_, _), (_, _)]) (by k_in) rfl (by k_is) rfl rfl rfl) | ((with_reducible show BindsTo _ _ ⟨[_, _, _], []⟩ _); first | exact BindsTo.of_eq (binds := [(_, _), (_, _), (_, _)]) rfl | exact binds_K (binds := [(_, _), (_, _), (_, _)]) (by k_in) rfl (by k_is) rfl rfl rfl) | ((with_reducible show BindsTo _ _ ⟨[_, _, _, _], []⟩ _); first | exact BindsTo.of_eq (binds := [(_, _), (_, _), (_, _), (_, _)]) rfl | exact binds_K (binds := [(_, _), (_, _), (_, _), (_, _)]) (by k_in) rfl (by k_is) rfl rfl rfl) | ((with_reducible show BindsTo _ _ ⟨[_, _, _, _, _], []⟩ _); first | exact BindsTo.of_eq (binds := [(_, _), (_, _), (_, _), (_, _), (_, _)]) rfl | exact binds_K (binds := [(_, _), (_, _), (_, _), (_, _), (_, _)]) (by k_in) rfl (by k_is) rfl rfl rfl)); (case c5 => decide); (case kB => exact locs rfl); (case c2 => exact rfl); (case c3 => exact rfl); (case c4 => exact rfl); k_whole; intro zqoLp zqLp zqhp zqtkp zqFp zqNp zql1 zqn1; (try k_lt zql1); (try (replace zqn1 := allNe_of zqn1; simp only [AllNe, and_true] at zqn1)); (try dsimp only); walk_at "mine texts")))
  k_with "call builtin:str.join" => ((k_here; (with_reducible show wpAny _ _ (call (Value.builtin "str.join") [Value.str _ _, Value.ref _]) _ _ _); k_dflt (refine join_listC (by is_list) (by repeat constructor) (by decide) (by (simp only [List.map_cons, List.map_nil, List.sum_cons, List.sum_nil, List.length_cons, List.length_nil]; omega)) ?_); intro zqtp zqkp))
  k_with "getMethod type:Exception" => ((k_here; refine' method_type ?F ?X ?m (by decide +kernel) ?e ?h ?_; (case F => k_asm); (case X => k_asm); (case m => exact meta_Exception); (case e => k_dflt k_is); (case h => k_handed)))
  k_with "compareOp IsNot" => ((k_here; k_dflt (refine isNot_none (by assumption) ?_)))
  k_with "call builtin:str.format" => ((k_here; k_dflt (refine' line_use ?k1 ?k2 ?k3 ?k4 ?k5 ?k6 ?k7 ?_; (case k1 => assumption); (case k2 => k_asm); (case k3 => k_asm); (case k4 => exact rfl); (case k5 => exact rfl); (case k6 => exact Nat.le_of_ble_eq_true rfl); (case k7 => exact Nat.le_of_ble_eq_true rfl); k_whole; intro zqhp zqup zqtkp zqFp zqNp)))
  k_with "call builtin:str.format" => ((k_here; (with_reducible show wpAny _ _ (call (Value.builtin "str.format") [Value.str _ _, _, _, _, _]) _ _ _); k_dflt (refine' fmt_use ?k1 ?k2 ?k3 ?k4 ?k5 ?_; (case k1 => k_asm); (case k2 => k_asm); (case k3 => exact ⟨rfl, rfl, Nat.le_of_ble_eq_true rfl, Nat.le_of_ble_eq_true rfl⟩); (case k4 => exact args_5 _ _ _ _ _); (case k5 => walk_at "mine fmt")); k_whole; intro zqhp zqup zqtkp zqFp zqNp))
  k_with "pyReprObj" => ((k_here; k_dflt (refine' reprObj_use ?k1 ?k2 ?k3 ?k4 ?k5 ?k6 ?k7 ?_; (case k1 => assumption); (case k2 => k_asm); (case k3 => k_asm); (case k4 => exact rfl); (case k5 => exact rfl); (case k6 => exact Nat.le_of_ble_eq_true rfl); (case k7 => exact Nat.le_of_ble_eq_true rfl); k_whole; intro zqhp zqup zqtkp zqFp zqNp)))
  k_with "call ref" => ((k_here; (with_reducible show wpAny _ _ (call (Value.ref 29) [Value.ref _, Value.str _ _]) _ _ _); k_dflt (refine' errIni ?k1 ?k2 ?k3 ?k4 ?k5 ?k6 ?k7 ?_; (case k1 => k_asm); (case k2 => k_asm); (case k3 => assumption); (case k4 => k_asm); (case k5 => k_updF); (case k6 => kernel_rfl); (case k7 => exact Nat.le_of_ble_eq_true rfl)); k_whole; intro zqdp zqtp zqhp zqtkp zqukp zqFp zqNp zql1 zql2 zql3; (try dsimp only at zqNp); (try k_lt zql1); (try k_lt zql2)))
  trivial
theorem conDSk : ∀ {p : Program} {loose : List Str} {mean : ExcName → Option Value} {mg mb : Str → Option Value} (w : World) (s : Shared) (sec n : Value) (rs : Str) (R0 : Rep PySem.Challenge.rw_dm0028_09.prog w s.heap sec rs)
    (Q E : Value → Shared → Prop) (KX : (hz.heap_188 w.params).In s.heap) (T : Top p loose mean mg mb s.heap)
    (hQ : ∀ h' tk e d ta od u, Grow s.heap h' → ErrNew s.heap h' 79 e d ta od (Txt.join (Str.ofString "") [Str.ofString "Section ", rs, Str.ofString " already exists"]) u [("section", sec), ("source", .none), ("lineno", n)] [sec, .none, n] → Q (.ref e) { s with heap := h', toks := tk }),
    wpAny (model PySem.Challenge.rw_dm0028_09.prog w) (AD 600 2000) (call (.ref 79) [sec] [("lineno", n)]) Q E s := by
  w_top off
  k_fill
  intro p loose mean mg mb w s sec n rs R0 Q E KX T hQ
  obtain ⟨hh, g, dr, tk, os⟩ := s
  dsimp only at KX T R0 hQ
  have lq0 : (Str.ofString "While reading from ").length ≤ 200 := Nat.le_of_ble_eq_true rfl
  have lq1 : (Str.ofString ": section ").length ≤ 200 := Nat.le_of_ble_eq_true rfl
  have lq2 : (Str.ofString "Section ").length ≤ 200 := Nat.le_of_ble_eq_true rfl
  have lq3 : (Str.ofString " in section ").length ≤ 200 := Nat.le_of_ble_eq_true rfl
  have lq4 : (Str.ofString " already exists").length ≤ 200 := Nat.le_of_ble_eq_true rfl
  have O0 := R0.old
  have sq0 := R0.short
  w_strict (
  refine wpAny_call ?_
  refine exc_make (KX 79 _ (by k_is)) (by decide +kernel) (by decide +kernel) (by decide +kernel) (looks_specialIn KX (by k_is)) (looks_instIn KX (by k_is)) (looks_findIn KX (by k_is)) (fun self => bind_fn KX self (by k_is)) (by size_fits) ?_
  k_dflt (refine' enter_new (h₀ := hh) (binds := [("self", .ref (hh.objs.size + 1)), ("section", sec), ("source", .none), ("lineno", n)]) (news := [(hh.objs.size + 1, excObj 79 none hh.objs.size), (hh.objs.size, tupObj [sec])]) ?k1 ?k2 KX T.nolimit ?k9 ?k5 ?k6 ?k7 ?k8 ?kB ?c2 ?c3 ?c4 ?c5 ?_; (case k5 => k_is); (case k6 => k_is); (case k7 => exact Nat.le_of_ble_eq_true rfl); (case k8 => first | exact BindsTo.of_eq rfl | exact binds_K (Frag.In.keeps KX (made_grow _ _ _)) rfl (by k_is) rfl rfl rfl); (case c5 => decide); (case kB => exact locs rfl); (case c2 => exact rfl); (case c3 => exact rfl); (case c4 => exact rfl); (case k1 => exact made_grow _ _ _); (case k2 => (simp; omega)); (case k9 => exact made_news _ _ _))
  intro L' h' tk' F' N' l1; k_lt l1
  walk_at "mine texts"
  k_steps
  refine ⟨rfl, ?_⟩
  (with_reducible rename Fr _ _ _ _ => Fz)
  (with_reducible rename News _ _ _ _ => Nz)
  refine hQ _ _ _ _ _ _ _ Fz.keep (err_close Nz (by k_mem) (by k_mem) (by k_mem) (Eq.trans (lookIn_dict _ _ _) (by k_get)) ?_)
  intro q hq
  simp only [List.mem_cons, List.not_mem_nil, or_false] at hq
  rcases hq with rfl | rfl | rfl <;> kernel_rfl)
theorem conDOn : ∀ {p : Program} {loose : List Str} {mean : ExcName → Option Value} {mg mb : Str → Option Value} (w : World) (s : Shared) (sec opt : Value) (rs : Str) (R0 : Rep PySem.Challenge.rw_dm0028_09.prog w s.heap sec rs) (ro : Str) (R1 : Rep PySem.Challenge.rw_dm0028_09.prog w s.heap opt ro)
    (Q E : Value → Shared → Prop) (KX : (hz.heap_188 w.params).In s.heap) (T : Top p loose mean mg mb s.heap)
    (hQ : ∀ h' tk e d ta od u, Grow s.heap h' → ErrNew s.heap h' 99 e d ta od (Txt.join (Str.ofString "") [Str.ofString "Option ", ro, Str.ofString " in section ", rs, Str.ofString " already exists"]) u [("section", sec), ("option", opt), ("source", .none), ("lineno", .none)] [sec, opt, .none, .none] → Q (.ref e) { s with heap := h', toks := tk }),
    wpAny (model PySem.Challenge.rw_dm0028_09.prog w) (AD 600 2000) (call (.ref 99) [sec, opt]) Q E s := by
  w_top off
  k_fill
  intro p loose mean mg mb w s sec opt rs R0 ro R1 Q E KX T hQ
  obtain ⟨hh, g, dr, tk, os⟩ := s
  dsimp only at KX T R0 R1 hQ
  have lq0 : (Str.ofString "While reading from ").length ≤ 200 := Nat.le_of_ble_eq_true rfl
  have lq1 : (Str.ofString ": option ").length ≤ 200 := Nat.le_of_ble_eq_true rfl
  have lq2 : (Str.ofString "Option ").length ≤ 200 := Nat.le_of_ble_eq_true rfl
  have lq3 : (Str.ofString " in section ").length ≤ 200 := Nat.le_of_ble_eq_true rfl
  have lq4 : (Str.ofString " already exists").length ≤ 200 := Nat.le_of_ble_eq_true rfl
  have O0 := R0.old
  have sq0 := R0.short
  have O1 := R1.old
  have sq1 := R1.short
  w_strict (
  refine wpAny_call ?_
  refine exc_make (KX 99 _ (by k_is)) (by decide +kernel) (by decide +kernel) (by decide +kernel) (looks_specialIn KX (by k_is)) (looks_instIn KX (by k_is)) (looks_findIn KX (by k_is)) (fun self => bind_fn KX self (by k_is)) (by size_fits) ?_
  k_dflt (refine' enter_new (h₀ := hh) (binds := [("self", .ref (hh.objs.size + 1)), ("section", sec), ("option", opt), ("source", .none), ("lineno", .none)]) (news := [(hh.objs.size + 1, excObj 99 none hh.objs.size), (hh.objs.size, tupObj [sec, opt])]) ?k1 ?k2 KX T.nolimit ?k9 ?k5 ?k6 ?k7 ?k8 ?kB ?c2 ?c3 ?c4 ?c5 ?_; (case k5 => k_is); (case k6 => k_is); (case k7 => exact Nat.le_of_ble_eq_true rfl); (case k8 => first | exact BindsTo.of_eq rfl | exact binds_K (Frag.In.keeps KX (made_grow _ _ _)) rfl (by k_is) rfl rfl rfl); (case c5 => decide); (case kB => exact locs rfl); (case c2 => exact rfl); (case c3 => exact rfl); (case c4 => exact rfl); (case k1 => exact made_grow _ _ _); (case k2 => (simp; omega)); (case k9 => exact made_news _ _ _))
  intro L' h' tk' F' N' l1; k_lt l1
  walk_at "mine texts"
  k_steps
  refine ⟨rfl, ?_⟩
  (with_reducible rename Fr _ _ _ _ => Fz)
  (with_reducible rename News _ _ _ _ => Nz)
  refine hQ _ _ _ _ _ _ _ Fz.keep (err_close Nz (by k_mem) (by k_mem) (by k_mem) (Eq.trans (lookIn_dict _ _ _) (by k_get)) ?_)
  intro q hq
  simp only [List.mem_cons, List.not_mem_nil, or_false] at hq
  rcases hq with rfl | rfl | rfl | rfl <;> kernel_rfl)
theorem conDSb : ∀ {p : Program} {loose : List Str} {mean : ExcName → Option Value} {mg mb : Str → Option Value} (w : World) (s : Shared) (sec src : Value) (hn : src ≠ .none) (n : Int) (nt : Tok) (ln : Str) (RL : Lines PySem.Challenge.rw_dm0028_09.prog w n ln) (rs : Str) (R0 : Rep PySem.Challenge.rw_dm0028_09.prog w s.heap sec rs) (rc : Str) (R1 : Rep PySem.Challenge.rw_dm0028_09.prog w s.heap src rc)
    (Q E : Value → Shared → Prop) (KX : (hz.heap_188 w.params).In s.heap) (T : Top p loose mean mg mb s.heap)
    (hQ : ∀ h' tk e d ta od u, Grow s.heap h' → ErrNew s.heap h' 79 e d ta od (Txt.join (Str.ofString "") [Str.ofString "While reading from ", rc, ln, Str.ofString ": section ", rs, Str.ofString " already exists"]) u [("section", sec), ("source", src), ("lineno", .int n nt)] [sec, src, .int n nt] → Q (.ref e) { s with heap := h', toks := tk }),
    wpAny (model PySem.Challenge.rw_dm0028_09.prog w) (AD 600 2000) (call (.ref 79) [sec, src, .int n nt]) Q E s := by
  w_top off
  k_fill
  intro p loose mean mg mb w s sec src hn n nt ln RL rs R0 rc R1 Q E KX T hQ
  obtain ⟨hh, g, dr, tk, os⟩ := s
  dsimp only at KX T R0 R1 hQ
  have lq0 : (Str.ofString "While reading from ").length ≤ 200 := Nat.le_of_ble_eq_true rfl
  have lq1 : (Str.ofString ": section ").length ≤ 200 := Nat.le_of_ble_eq_true rfl
  have lq2 : (Str.ofString "Section ").length ≤ 200 := Nat.le_of_ble_eq_true rfl
  have lq3 : (Str.ofString " in section ").length ≤ 200 := Nat.le_of_ble_eq_true rfl
  have lq4 : (Str.ofString " already exists").length ≤ 200 := Nat.le_of_ble_eq_true rfl
  have sqL := RL.short
  have O0 := R0.old
  have sq0 := R0.short
  have O1 := R1.old
  have sq1 := R1.short
  w_strict (
  refine wpAny_call ?_
  refine exc_make (KX 79 _ (by k_is)) (by decide +kernel) (by decide +kernel) (by decide +kernel) (looks_specialIn KX (by k_is)) (looks_instIn KX (by k_is)) (looks_findIn KX (by k_is)) (fun self => bind_fn KX self (by k_is)) (by size_fits) ?_
  k_dflt (refine' enter_new (h₀ := hh) (binds := [("self", .ref (hh.objs.size + 1)), ("section", sec), ("source", src), ("lineno", .int n nt)]) (news := [(hh.objs.size + 1, excObj 79 none hh.objs.size), (hh.objs.size, tupObj [sec, src, .int n nt])]) ?k1 ?k2 KX T.nolimit ?k9 ?k5 ?k6 ?k7 ?k8 ?kB ?c2 ?c3 ?c4 ?c5 ?_; (case k5 => k_is); (case k6 => k_is); (case k7 => exact Nat.le_of_ble_eq_true rfl); (case k8 => first | exact BindsTo.of_eq rfl | exact binds_K (Frag.In.keeps KX (made_grow _ _ _)) rfl (by k_is) rfl rfl rfl); (case c5 => decide); (case kB => exact locs rfl); (case c2 => exact rfl); (case c3 => exact rfl); (case c4 => exact rfl); (case k1 => exact made_grow _ _ _); (case k2 => (simp; omega)); (case k9 => exact made_news _ _ _))
  intro L' h' tk' F' N' l1; k_lt l1
  walk_at "mine texts"
  k_steps
  refine ⟨rfl, ?_⟩
  (with_reducible rename Fr _ _ _ _ => Fz)
  (with_reducible rename News _ _ _ _ => Nz)
  refine hQ _ _ _ _ _ _ _ Fz.keep (err_close Nz (by k_mem) (by k_mem) (by k_mem) (Eq.trans (lookIn_dict _ _ _) (by k_get)) ?_)
  intro q hq
  simp only [List.mem_cons, List.not_mem_nil, or_false] at hq
  rcases hq with rfl | rfl | rfl <;> kernel_rfl)
end
section
theorem lay1 : True := by
  k_with_none
  k_with "ne" => (with_reducible (first | exact ns1 | exact ns2 | exact qlt (by assumption) | exact qgt (by assumption) | exact qne (by assumption) | exact qen (by assumption) | exact rlt (by assumption) | exact rgt (by assumption) | exact rne (by assumption) | exact ren (by assumption) | exact qlt (And.right (by assumption)) | exact qgt (And.right (by assumption)) | exact qne (And.right (by assumption)) | exact qen (And.right (by assumption)) | exact rlt (And.right (by assumption)) | exact rgt (And.right (by assumption)) | exact rne (And.right (by assumption)) | exact ren (And.right (by assumption)) | exact qlt (And.right (And.right (by assumption))) | exact qgt (And.right (And.right (by assumption))) | exact qne (And.right (And.right (by assumption))) | exact qen (And.right (And.right (by assumption))) | exact rlt (And.right (And.right (by assumption))) | exact rgt (And.right (And.right (by assumption))) | exact rne (And.right (And.right (by assumption))) | exact ren (And.right (And.right (by assumption))) | exact qlt (And.right (And.right (And.right (by assumption)))) | exact qgt (And.right (And.right (And.right (by assumption)))) | exact qne (And.right (And.right (And.right (by assumption)))) | exact qen (And.right (And.right (And.right (by assumption)))) | exact rlt (And.right (And.right (And.right (by assumption)))) | exact rgt (And.right (And.right (And.right (by assumption)))) | exact rne (And.right (And.right (And.right (by assumption)))) | exact ren (And.right (And.right (And.right (by assumption)))) | exact qlt (And.right (And.right (And.right (And.right (by assumption))))) | exact qgt (And.right (And.right (And.right (And.right (by assumption))))) | exact qne (And.right (And.right (And.right (And.right (by assumption))))) | exact qen (And.right (And.right (And.right (And.right (by assumption))))) | exact rlt (And.right (And.right (And.right (And.right (by assumption))))) | exact rgt (And.right (And.right (And.right (And.right (by assumption))))) | exact rne (And.right (And.right (And.right (And.right (by assumption))))) | exact ren (And.right (And.right (And.right (And.right (by assumption))))) | exact qlt (And.right (And.right (And.right (And.right (And.right (by assumption)))))) | exact qgt (And.right (And.right (And.right (And.right (And.right (by assumption)))))) | exact qne (And.right (And.right (And.right (And.right (And.right (by assumption)))))) | exact qen (And.right (And.right (And.right (And.right (And.right (by assumption)))))) | exact rlt (And.right (And.right (And.right (And.right (And.right (by assumption)))))) | exact rgt (And.right (And.right (And.right (And.right (And.right (by assumption)))))) | exact rne (And.right (And.right (And.right (And.right (And.right (by assumption)))))) | exact ren (And.right (And.right (And.right (And.right (And.right (by assumption)))))) | exact qlt (And.right (And.right (And.right (And.right (And.right (And.right (by assumption))))))) | exact qgt (And.right (And.right (And.right (And.right (And.right (And.right (by assumption))))))) | exact qne (And.right (And.right (And.right (And.right (And.right (And.right (by assumption))))))) | exact qen (And.right (And.right (And.right (And.right (And.right (And.right (by assumption))))))) | exact rlt (And.right (And.right (And.right (And.right (And.right (And.right (by assumption))))))) | exact rgt (And.right (And.right (And.right (And.right (And.right (And.right (by assumption))))))) | exact rne (And.right (And.right (And.right (And.right (And.right (And.right (by assumption))))))) | exact ren (And.right (And.right (And.right (And.right (And.right (And.right (by assumption))))))) | exact qlt (And.right (And.right (And.right (And.right (And.right (And.right (And.right (by assumption)))))))) | exact qgt (And.right (And.right (And.right (And.right (And.right (And.right (And.right (by assumption)))))))) | exact qne (And.right (And.right (And.right (And.right (And.right (And.right (And.right (by assumption)))))))) | exact qen (And.right (And.right (And.right (And.right (And.right (And.right (And.right (by assumption)))))))) | exact rlt (And.right (And.right (And.right (And.right (And.right (And.right (And.right (by assumption)))))))) | exact rgt (And.right (And.right (And.right (And.right (And.right (And.right (And.right (by assumption)))))))) | exact rne (And.right (And.right (And.right (And.right (And.right (And.right (And.right (by assumption)))))))) | exact ren (And.right (And.right (And.right (And.right (And.right (And.right (And.right (by assumption)))))))) | exact qlt (And.right (And.right (And.right (And.right (And.right (And.right (And.right (And.right (by assumption))))))))) | exact qgt (And.right (And.right (And.right (And.right (And.right (And.right (And.right (And.right (by assumption))))))))) | exact qne (And.right (And.right (And.right (And.right (And.right (And.right (And.right (And.right (by assumption))))))))) | exact qen (And.right (And.right (And.right (And.right (And.right (And.right (And.right (And.right (by assumption))))))))) | exact rlt (And.right (And.right (And.right (And.right (And.right (And.right (And.right (And.right (by assumption))))))))) | exact rgt (And.right (And.right (And.right (And.right (And.right (And.right (And.right (And.right (by assumption))))))))) | exact rne (And.right (And.right (And.right (And.right (And.right (And.right (And.right (And.right (by assumption))))))))) | exact ren (And.right (And.right (And.right (And.right (And.right (And.right (And.right (And.right (by assumption))))))))) | exact qlt (And.right (And.right (And.right (And.right (And.right (And.right (And.right (And.right (And.right (by assumption)))))))))) | exact qgt (And.right (And.right (And.right (And.right (And.right (And.right (And.right (And.right (And.right (by assumption)))))))))) | exact qne (And.right (And.right (And.right (And.right (And.right (And.right (And.right (And.right (And.right (by assumption)))))))))) | exact qen (And.right (And.right (And.right (And.right (And.right (And.right (And.right (And.right (And.right (by assumption)))))))))) | exact rlt (And.right (And.right (And.right (And.right (And.right (And.right (And.right (And.right (And.right (by assumption)))))))))) | exact rgt (And.right (And.right (And.right (And.right (And.right (And.right (And.right (And.right (And.right (by assumption)))))))))) | exact rne (And.right (And.right (And.right (And.right (And.right (And.right (And.right (And.right (And.right (by assumption)))))))))) | exact ren (And.right (And.right (And.right (And.right (And.right (And.right (And.right (And.right (And.right (by assumption)))))))))) | exact qlt (And.right (And.right (And.right (And.right (And.right (And.right (And.right (And.right (And.right (And.right (by assumption))))))))))) | exact qgt (And.right (And.right (And.right (And.right (And.right (And.right (And.right (And.right (And.right (And.right (by assumption))))))))))) | exact qne (And.right (And.right (And.right (And.right (And.right (And.right (And.right (And.right (And.right (And.right (by assumption))))))))))) | exact qen (And.right (And.right (And.right (And.right (And.right (And.right (And.right (And.right (And.right (And.right (by assumption))))))))))) | exact rlt (And.right (And.right (And.right (And.right (And.right (And.right (And.right (And.right (And.right (And.right (by assumption))))))))))) | exact rgt (And.right (And.right (And.right (And.right (And.right (And.right (And.right (And.right (And.right (And.right (by assumption))))))))))) | exact rne (And.right (And.right (And.right (And.right (And.right (And.right (And.right (And.right (And.right (And.right (by assumption))))))))))) | exact ren (And.right (And.right (And.right (And.right (And.right (And.right (And.right (And.right (And.right (And.right (by assumption))))))))))) | exact qlt (And.right (And.right (And.right (And.right (And.right (And.right (And.right (And.right (And.right (And.right (And.right (by assumption)))))))))))) | exact qgt (And.right (And.right (And.right (And.right (And.right (And.right (And.right (And.right (And.right (And.right (And.right (by assumption)))))))))))) | exact qne (And.right (And.right (And.right (And.right (And.right (And.right (And.right (And.right (And.right (And.right (And.right (by assumption)))))))))))) | exact qen (And.right (And.right (And.right (And.right (And.right (And.right (And.right (And.right (And.right (And.right (And.right (by assumption)))))))))))) | exact rlt (And.right (And.right (And.right (And.right (And.right (And.right (And.right (And.right (And.right (And.right (And.right (by assumption)))))))))))) | exact rgt (And.right (And.right (And.right (And.right (And.right (And.right (And.right (And.right (And.right (And.right (And.right (by assumption)))))))))))) | exact rne (And.right (And.right (And.right (And.right (And.right (And.right (And.right (And.right (And.right (And.right (And.right (by assumption)))))))))))) | exact ren (And.right (And.right (And.right (And.right (And.right (And.right (And.right (And.right (And.right (And.right (And.right (by assumption)))))))))))) | exact qlt (And.right (And.right (And.right (And.right (And.right (And.right (And.right (And.right (And.right (And.right (And.right (And.right (by assumption))))))))))))) | exact qgt (And.right (And.right (And.right (And.right (And.right (And.right (And.right (And.right (And.right (And.right (And.right (And.right (by assumption))))))))))))) | exact qne (And.right (And.right (And.right (And.right (And.right (And.right (And.right (And.right (And.right (And.right (And.right (And.right (by assumption))))))))))))) | exact qen (And.right (And.right (And.right (And.right (And.right (And.right (And.right (And.right (And.right (And.right (And.right (And.right (by assumption))))))))))))) | exact rlt (And.right (And.right (And.right (And.right (And.right (And.right (And.right (And.right (And.right (And.right (And.right (And.right (by assumption))))))))))))) | exact rgt (And.right (And.right (And.right (And.right (And.right (And.right (And.right (And.right (And.right (And.right (And.right (And.right (by assumption))))))))))))) | exact rne (And.right (And.right (And.right (And.right (And.right (And.right (And.right (And.right (And.right (And.right (And.right (And.right (by assumption))))))))))))) | exact ren (And.right (And.right (And.right (And.right (And.right (And.right (And.right (And.right (And.right (And.right (And.right (And.right (by assumption))))))))))))) | exact qlt (And.right (And.right (And.right (And.right (And.right (And.right (And.right (And.right (And.right (And.right (And.right (And.right (And.right (by assumption)))))))))))))) | exact qgt (And.right (And.right (And.right (And.right (And.right (And.right (And.right (And.right (And.right (And.right (And.right (And.right (And.right (by assumption)))))))))))))) | exact qne (And.right (And.right (And.right (And.right (And.right (And.right (And.right (And.right (And.right (And.right (And.right (And.right (And.right (by assumption)))))))))))))) | exact qen (And.right (And.right (And.right (And.right (And.right (And.right (And.right (And.right (And.right (And.right (And.right (And.right (And.right (by assumption)))))))))))))) | exact rlt (And.right (And.right (And.right (And.right (And.right (And.right (And.right (And.right (And.right (And.right (And.right (And.right (And.right (by assumption)))))))))))))) | exact rgt (And.right (And.right (And.right (And.right (And.right (And.right (And.right (And.right (And.right (And.right (And.right (And.right (And.right (by assumption)))))))))))))) | exact rne (And.right (And.right (And.right (And.right (And.right (And.right (And.right (And.right (And.right (And.right (And.right (And.right (And.right (by assumption)))))))))))))) | exact ren (And.right (And.right (And.right (And.right (And.right (And.right (And.right (And.right (And.right (And.right (And.right (And.right (And.right (by assumption)))))))))))))) | exact qlt (And.right (And.right (And.right (And.right (And.right (And.right (And.right (And.right (And.right (And.right (And.right (And.right (And.right (And.right (by assumption))))))))))))))) | exact qgt (And.right (And.right (And.right (And.right (And.right (And.right (And.right (And.right (And.right (And.right (And.right (And.right (And.right (And.right (by assumption))))))))))))))) | exact qne (And.right (And.right (And.right (And.right (And.right (And.right (And.right (And.right (And.right (And.right (And.right (And.right (And.right (And.right (by assumption))))))))))))))) | exact qen (And.right (And.right (And.right (And.right (And.right (And.right (And.right (And.right (And.right (And.right (And.right (And.right (And.right (And.right (by assumption))))))))))))))) | exact rlt (And.right (And.right (And.right (And.right (And.right (And.right (And.right (And.right (And.right (And.right (And.right (And.right (And.right (And.right (by assumption))))))))))))))) | exact rgt (And.right (And.right (And.right (And.right (And.right (And.right (And.right (And.right (And.right (And.right (And.right (And.right (And.right (And.right (by assumption))))))))))))))) | exact rne (And.right (And.right (And.right (And.right (And.right (And.right (And.right (And.right (And.right (And.right (And.right (And.right (And.right (And.right (by assumption))))))))))))))) | exact ren (And.right (And.right (And.right (And.right (And.right (And.right (And.right (And.right (And.right (And.right (And.right (And.right (And.right (And.right (by assumption))))))))))))))) | exact qlt (And.right (And.right (And.right (And.right (And.right (And.right (And.right (And.right (And.right (And.right (And.right (And.right (And.right (And.right (And.right (by assumption)))))))))))))))) | exact qgt (And.right (And.right (And.right (And.right (And.right (And.right (And.right (And.right (And.right (And.right (And.right (And.right (And.right (And.right (And.right (by assumption)))))))))))))))) | exact qne (And.right (And.right (And.right (And.right (And.right (And.right (And.right (And.right (And.right (And.right (And.right (And.right (And.right (And.right (And.right (by assumption)))))))))))))))) | exact qen (And.right (And.right (And.right (And.right (And.right (And.right (And.right (And.right (And.right (And.right (And.right (And.right (And.right (And.right (And.right (by assumption)))))))))))))))) | exact rlt (And.right (And.right (And.right (And.right (And.right (And.right (And.right (And.right (And.right (And.right (And.right (And.right (And.right (And.right (And.right (by assumption)))))))))))))))) | exact rgt (And.right (And.right (And.right (And.right (And.right (And.right (And.right (And.right (And.right (And.right (And.right (And.right (And.right (And.right (And.right (by assumption)))))))))))))))) | exact rne (And.right (And.right (And.right (And.right (And.right (And.right (And.right (And.right (And.right (And.right (And.right (And.right (And.right (And.right (And.right (by assumption)))))))))))))))) | exact ren (And.right (And.right (And.right (And.right (And.right (And.right (And.right (And.right (And.right (And.right (And.right (And.right (And.right (And.right (And.right (by assumption))))))))))))))))))
  trivial
theorem lay2 : True := by
  k_with "mine texts" => ((try dsimp only [← sx0, ← sx1, ← sx2, ← sx3, ← sx4, ← sx5, ← sx6, ← sx7, ← sx8, ← sx9, ← sx10, ← sx11, ← sx12, ← sx13, ← sx14, ← sx15, ← sx16, ← sx17, ← sx18, ← sx19, ← sx20, ← sx21, ← sx22, ← sx23, ← sx24, ← sx25, ← sx26, ← sx27, ← sx28, ← sx29, ← sx30, ← sx31, ← sx32, ← sx33, ← sx34, ← sx35, ← sx36, ← sx37, ← sx38, ← sx39, ← sx40, ← sx41, ← sx42, ← sx43, ← sx44, ← sx45, ← sx46, ← sx47, ← sx48, ← sx49, ← sx50, ← sx51, ← sx52, ← sx53, ← sx54, ← sx55, ← sx56, ← sx57, ← sx58, ← sx59, ← sx60, ← sx61, ← sx62, ← sx63, ← sx64, ← sx65, ← sx66, ← sx67, ← sx68, ← sx69, ← sx70, ← sx71, ← sx72, ← sx73, ← sx74, ← sx75, ← sx76, ← sx77, ← sx78, ← sx79, ← sx80, ← sx81, ← sx82, ← sx83, ← sx84, ← sx85, ← sx86, ← sx87, ← sx88, ← sx89, ← sx90, ← sx91, ← sx92, ← sx93, ← sx94, ← sx95, ← sx96, ← sx97, ← sx98, ← sx99, ← sx100, ← sx101, ← sx102, ← sx103, ← sx104, ← sx105, ← sx106, ← sx107, ← sx108, ← sx109, ← sx110, ← sx111, ← sx112, ← sx113]))
  k_with "mine drop" => (first | (refine' Drop.head ?a; (case a => k_all)) | (refine' Drop.tail ?a ?b; (case a => k_ne); (case b => walk_at "mine drop")))
  k_with "setAttr ref" => ((k_here; k_dflt (first | (refine' exc_set0 ?k1 ?k2 ?k3 ?k4 ?k5 ?k6 ?k7 ?k8 ?k9 ?_; (case k1 => k_asm); (case k2 => k_asm); (case k3 => k_asm); (case k4 => k_mem); (case k5 => k_is); (case k6 => kernel_rfl); (case k7 => k_is); (case k8 => k_is); (case k9 => intro zqd; k_upd); k_whole; intro zqdp zqhp zqFp zqNp zql1; (try k_lt zql1)) | (refine' exc_set_args ?k1 ?k2 ?k3 ?k4 ?k5 ?k6 ?k7 ?k8 ?k9 ?k10 ?_; (case k1 => k_asm); (case k2 => k_asm); (case k3 => k_asm); (case k4 => first | (refine' InstAt.of_exc ?N ?h1 ?h2; (case N => k_asm); (case h1 => k_mem); (case h2 => k_mem)) | (refine' InstAt.of_exc0 ?N ?h1; (case N => k_asm); (case h1 => k_mem))); (case k5 => exact isTup_of (by k_asm) (by k_mem)); (case k6 => k_is); (case k7 => kernel_rfl); (case k8 => k_is); (case k9 => k_is); (case k10 => k_upd); k_whole; intro zqhp zqFp zqNp) | (refine' exc_set ?k1 ?k2 ?k3 ?k4 ?k5 ?k6 ?k7 ?k8 ?k9 ?k10 ?k11 ?k12 ?_; (case k1 => k_asm); (case k2 => k_asm); (case k3 => k_asm); (case k4 => first | (refine' InstAt.of_exc ?N ?h1 ?h2; (case N => k_asm); (case h1 => k_mem); (case h2 => k_mem)) | (refine' InstAt.of_exc0 ?N ?h1; (case N => k_asm); (case h1 => k_mem))); (case k5 => k_is); (case k6 => kernel_rfl); (case k7 => k_is); (case k8 => k_is); (case k9 => k_get); (case k10 => k_put); (case k11 => k_upd); (case k12 => exact Nat.le_of_ble_eq_true rfl); k_whole; intro zqhp zqFp zqNp))))
  k_with "call builtin:Exception.__init__" => ((k_here; k_dflt (refine' exc_init_call ?k1 ?k2 ?k3 ?k4 ?k5 ?k6 ?_; (case k1 => k_asm); (case k2 => k_asm); (case k3 => k_asm); (case k4 => first | (refine' InstAt.of_exc ?N ?h1 ?h2; (case N => k_asm); (case h1 => k_mem); (case h2 => k_mem)) | (refine' InstAt.of_exc0 ?N ?h1; (case N => k_asm); (case h1 => k_mem))); (case k5 => k_is); (case k6 => intro zqt; k_upd); k_whole; intro zqtp zqhp zqFp zqNp zql1; (try k_lt zql1))))
  k_with "call builtin:repr" => ((k_here; k_dflt (refine' repr_use ?k1 ?k2 ?k3 ?k4 ?k5 ?k6 ?k7 ?_; (case k1 => assumption); (case k2 => k_asm); (case k3 => k_asm); (case k4 => exact rfl); (case k5 => exact rfl); (case k6 => exact Nat.le_of_ble_eq_true rfl); (case k7 => exact Nat.le_of_ble_eq_true rfl); k_whole; intro zqhp zqup zqtkp zqFp zqNp)))
  k_with "BackIn" => ((k_dflt (refine' back_ ?k1 ?k2 ?k3 ?_; (case k1 => k_asm); (case k2 => k_asm); (case k3 => walk_at "mine drop"); k_whole; intro zqFp zqNp; (try dsimp only))))
  k_with "call ref" => ((k_here; k_dflt (refine wpAny_call ?_; refine' enter_in ?k1 ?k2 ?k3 ?k4 ?k5 ?k6 ?k7 ?k8 ?kB ?c2 ?c3 ?c4 ?c5 ?_; (case k1 => k_asm); (case k2 => k_asm); (case k3 => k_asm); (case k4 => exact Top.nolimit (by assumption)); (case k5 => k_is); (case k6 => k_is); (case k7 => exact Nat.le_of_ble_eq_true rfl); (case k8 => first | ((with_reducible show BindsTo _ _ ⟨[_], []⟩ _); first | exact BindsTo.of_eq (binds := [(_, _)]) rfl | exact binds_K (binds := [(_, _)]) (by k_in) rfl (by k_is) rfl rfl rfl) | ((with_reducible show BindsTo _ _ ⟨[_, _], []⟩ _); first | exact BindsTo.of_eq (binds := [(_, _), (_, _)]) rfl | exact binds_K (binds := [(_, _), (_, _)]) (by k_in) rfl (by k_is) rfl rfl rfl) | ((with_reducible show BindsTo _ _ ⟨[_, _, _], []⟩ _); first | exact BindsTo.of_eq (binds := [(_, _), (_, _), (_, _)]) rfl | exact binds_K (binds := [(_, _), (_, _), (_, _)]) (by k_in) rfl (by k_is) rfl rfl rfl) | ((with_reducible show BindsTo _ _ ⟨[_, _, _, _], []⟩ _); first | exact BindsTo.of_eq (binds := [(_, _), (_, _), (_, _), (_, _)]) rfl | exact binds_K (binds := [(_, _), (_, _), (_, _), (_, _)]) (by k_in) rfl (by k_is) rfl rfl rfl) | ((with_reducible show BindsTo _ _ ⟨[_, _, _, _, _], []⟩ _); first | exact BindsTo.of_eq (binds := [(_, _), (_, _), (_, _), (_, _), (_, _)]) rfl | exact binds_K (binds := [(_, _), (_, _), (_, _), (_, _), (_, _)]) (by k_in) rfl (by k_is) rfl rfl rfl)); (case c5 => decide); (case kB => exact locs rfl); (case c2 => exact rfl); (case c3 => exact rfl); (case c4 => exact rfl); k_whole; intro zqoLp zqLp zqhp zqtkp zqFp zqNp zql1 zqn1; (try k_lt zql1); (try (replace zqn1 := allNe_of zqn1; simp only [AllNe, and_true] at zqn1)); (try dsimp only); walk_at "mine texts")))
  k_with "call builtin:str.join" => ((k_here; (with_reducible show wpAny _ _ (call (Value.builtin "str.join") [Value.str _ _, Value.ref _]) _ _ _); k_dflt (refine join_listC (by is_list) (by repeat constructor) (by decide) (by (simp only [List.map_cons, List.map_nil, List.sum_cons, List.sum_nil, List.length_cons, List.length_nil]; omega)) ?_); intro zqtp zqkp))
  k_with "getMethod type:Exception" => ((k_here; refine' method_type ?F ?X ?m (by decide +kernel) ?e ?h ?_; (case F => k_asm); (case X => k_asm); (case m => exact meta_Exception); (case e => k_dflt k_is); (case h => k_handed)))
  k_with "compareOp IsNot" => ((k_here; k_dflt (refine isNot_none (by assumption) ?_)))
  k_with "call builtin:str.format" => ((k_here; k_dflt (refine' line_use ?k1 ?k2 ?k3 ?k4 ?k5 ?k6 ?k7 ?_; (case k1 => assumption); (case k2 => k_asm); (case k3 => k_asm); (case k4 => exact rfl); (case k5 => exact rfl); (case k6 => exact Nat.le_of_ble_eq_true rfl); (case k7 => exact Nat.le_of_ble_eq_true rfl); k_whole; intro zqhp zqup zqtkp zqFp zqNp)))
  k_with "call builtin:str.format" => ((k_here; (with_reducible show wpAny _ _ (call (Value.builtin "str.format") [Value.str _ _, _, _, _, _]) _ _ _); k_dflt (refine' fmt_use ?k1 ?k2 ?k3 ?k4 ?k5 ?_; (case k1 => k_asm); (case k2 => k_asm); (case k3 => exact ⟨rfl, rfl, Nat.le_of_ble_eq_true rfl, Nat.le_of_ble_eq_true rfl⟩); (case k4 => exact args_5 _ _ _ _ _); (case k5 => walk_at "mine fmt")); k_whole; intro zqhp zqup zqtkp zqFp zqNp))
  k_with "pyReprObj" => ((k_here; k_dflt (refine' reprObj_use ?k1 ?k2 ?k3 ?k4 ?k5 ?k6 ?k7 ?_; (case k1 => assumption); (case k2 => k_asm); (case k3 => k_asm); (case k4 => exact rfl); (case k5 => exact rfl); (case k6 => exact Nat.le_of_ble_eq_true rfl); (case k7 => exact Nat.le_of_ble_eq_true rfl); k_whole; intro zqhp zqup zqtkp zqFp zqNp)))
  trivial
def WrOk (d u : Nat) (w : World) (h : Heap) (v : Value) (t : Str) : Prop := ∀ (s : Shared) (Q E : Value → Shared → Prop), Grow h s.heap → (∀ h' tk u, Grow s.heap h' → Q (.str t u) { s with heap := h', toks := tk }) → wpAny (model PySem.Challenge.rw_dm0028_09.prog w) (AD d u) (call (.ref 210) [v]) Q E s
theorem text_use2 {d u : Nat} {w : World} {A : Around} {E : Value → Shared → Prop} {s : Shared} {h₀ : Heap} {L : Addr} {m : Str → Option Value} {news : List (Addr × Obj)} {v : Value} {t : Str} {Q : Value → Shared → Prop} {K : Frag} (c : WrOk d u w h₀ v t) (F : Fr h₀ L s.heap m) (X₀ : K.In h₀) (N : News h₀ L s.heap news) (h1 : A.handled = none) (h2 : A.guards = some []) (h3 : A.depth ≤ d) (h4 : A.units ≤ u)
    (h : ∀ h' tk u, Fr h₀ L h' m → News h₀ L h' news → Q (.str t u) { s with heap := h', toks := tk }) : wpAny (model PySem.Challenge.rw_dm0028_09.prog w) A (call (.ref 210) [v]) Q E s :=
  weaken h1 h2 h3 h4 (c s Q E F.keep fun h' tk u g => h h' tk u (fr_grow F g) (news_grow N g))
local macro_rules | `(tactic| k_inst) => `(tactic| (refine' inst_grow ?zI ?zg; (case zI => assumption); (case zg => exact Fr.keep (by k_asm))))
local macro_rules | `(tactic| kit_at) => `(tactic| first | exact kitAt_tup (by assumption) (Fr.keep (by k_asm)) | exact kitAt_list (by assumption) (Fr.keep (by k_asm)))
theorem lay3 : True := by
  k_with "eval ListComp" => ((k_here; (with_reducible rename IsTup _ _ _ => zT); k_dflt (refine ListComp_tup (F₀ := by k_asm) (by rfl) (by decide) (by rfl) (by decide) (by rfl) ?_)))
  k_with "SrcT" => ((k_here; k_dflt (refine srcT_base (by rfl) (by k_asm) (by k_asm) (by assumption) (by first | size_fits | exact Nat.le_of_ble_eq_true rfl) ?_; intro zqgp; lcg_lit)))
  k_with "call ref" => ((k_here; (with_reducible rename WrOk _ _ _ _ _ _ => zc); (with_reducible show wpAny _ _ (call (Value.ref 210) [_]) _ _ _); k_dflt (refine' text_use2 (c := by assumption) ?k1 ?k2 ?k3 ?k4 ?k5 ?k6 ?k7 ?_; (case k1 => k_asm); (case k2 => k_asm); (case k3 => k_asm); (case k4 => exact rfl); (case k5 => exact rfl); (case k6 => exact Nat.le_of_ble_eq_true rfl); (case k7 => exact Nat.le_of_ble_eq_true rfl); k_whole; intro zqhp zqtkp zqup zqFp zqNp)))
  trivial
theorem wr_str : ∀ {p : Program} {loose : List Str} {mean : ExcName → Option Value} {mg mb : Str → Option Value} (w : World) (s : Shared) (x : Str) (t : Tok) (hl : x.length ≤ 100)
    (Q E : Value → Shared → Prop) (KX : (hz.heap_188 w.params).In s.heap) (T : Top p loose mean mg mb s.heap)
    (hQ : ∀ h' tk (u : Tok), Grow s.heap h' → Q (.str (Str.ofString "'" ++ x ++ Str.ofString "'") u) { s with heap := h', toks := tk }),
    wpAny (model PySem.Challenge.rw_dm0028_09.prog w) (AD 610 2100) (call (.ref 210) [.str x t]) Q E s := by
  w_top off
  k_fill
  intro p loose mean mg mb w s x t hl Q E KX T hQ
  obtain ⟨hh, g, dr, tk, os⟩ := s
  dsimp only at KX T  hQ
  w_strict (
  refine wpAny_call ?_
  k_dflt (refine' enter_new (h₀ := hh) (binds := [("value", .str x t)]) (news := []) ?k1 ?k2 KX T.nolimit ?k9 ?k5 ?k6 ?k7 ?k8 ?kB ?c2 ?c3 ?c4 ?c5 ?_; (case k5 => k_is); (case k6 => k_is); (case k7 => exact Nat.le_of_ble_eq_true rfl); (case k8 => first | exact BindsTo.of_eq rfl | exact binds_K KX rfl (by k_is) rfl rfl rfl); (case c5 => decide); (case kB => exact locs rfl); (case c2 => exact rfl); (case c3 => exact rfl); (case c4 => exact rfl); (case k1 => exact fun _ _ e => e); (case k2 => exact Nat.le_refl _); (case k9 => exact List.forall_mem_nil _))
  intro L' h' tk' F' N' l1
  walk_at "mine texts"
  k_steps
  dsimp only
  exact hQ _ _ _ F'.keep)
theorem wr_inst : ∀ {p : Program} {loose : List Str} {mean : ExcName → Option Value} {mg mb : Str → Option Value} (w : World) (s : Shared) (x d : Addr) (I : InstAt s.heap x (instObj 194 d) 194 (some (dictOf [] 0)))
    (Q E : Value → Shared → Prop) (KX : (hz.heap_188 w.params).In s.heap) (T : Top p loose mean mg mb s.heap)
    (hQ : ∀ h' tk (u : Tok), Grow s.heap h' → Q (.str (Str.ofString "<UNNAMED_SECTION>") u) { s with heap := h', toks := tk }),
    wpAny (model PySem.Challenge.rw_dm0028_09.prog w) (AD 610 2100) (call (.ref 210) [.ref x]) Q E s := by
  w_top off
  k_fill
  intro p loose mean mg mb w s x d I Q E KX T hQ
  obtain ⟨hh, g, dr, tk, os⟩ := s
  dsimp only at KX T I hQ
  w_strict (
  refine wpAny_call ?_
  k_dflt (refine' enter_new (h₀ := hh) (binds := [("value", .ref x)]) (news := []) ?k1 ?k2 KX T.nolimit ?k9 ?k5 ?k6 ?k7 ?k8 ?kB ?c2 ?c3 ?c4 ?c5 ?_; (case k5 => k_is); (case k6 => k_is); (case k7 => exact Nat.le_of_ble_eq_true rfl); (case k8 => first | exact BindsTo.of_eq rfl | exact binds_K KX rfl (by k_is) rfl rfl rfl); (case c5 => decide); (case kB => exact locs rfl); (case c2 => exact rfl); (case c3 => exact rfl); (case c4 => exact rfl); (case k1 => exact fun _ _ e => e); (case k2 => exact Nat.le_refl _); (case k9 => exact List.forall_mem_nil _))
  intro L' h' tk' F' N' l1
  walk_at "mine texts"
  k_steps
  dsimp only
  exact hQ _ _ _ F'.keep)
theorem wr_tup1 : ∀ {p : Program} {loose : List Str} {mean : ExcName → Option Value} {mg mb : Str → Option Value} (w : World) (s : Shared) (a : Addr) (v1 : Value) (t1 : Str) (l1 : t1.length ≤ 100) (ha : IsTup s.heap a #[v1]) (c1 : WrOk 610 2100 w s.heap v1 t1)
    (Q E : Value → Shared → Prop) (KX : (hz.heap_188 w.params).In s.heap) (T : Top p loose mean mg mb s.heap)
    (hQ : ∀ h' tk (u : Tok), Grow s.heap h' → Q (.str (Str.ofString "(" ++ Txt.join (Str.ofString ", ") [t1] ++ Str.ofString ",)") u) { s with heap := h', toks := tk }),
    wpAny (model PySem.Challenge.rw_dm0028_09.prog w) (AD 600 2000) (call (.ref 210) [.ref a]) Q E s := by
  w_top off
  k_fill
  intro p loose mean mg mb w s a v1 t1 l1 ha c1 Q E KX T hQ
  obtain ⟨hh, g, dr, tk, os⟩ := s
  dsimp only at KX T ha c1 hQ
  w_strict (
  refine wpAny_call ?_
  k_dflt (refine' enter_new (h₀ := hh) (binds := [("value", .ref a)]) (news := []) ?k1 ?k2 KX T.nolimit ?k9 ?k5 ?k6 ?k7 ?k8 ?kB ?c2 ?c3 ?c4 ?c5 ?_; (case k5 => k_is); (case k6 => k_is); (case k7 => exact Nat.le_of_ble_eq_true rfl); (case k8 => first | exact BindsTo.of_eq rfl | exact binds_K KX rfl (by k_is) rfl rfl rfl); (case c5 => decide); (case kB => exact locs rfl); (case c2 => exact rfl); (case c3 => exact rfl); (case c4 => exact rfl); (case k1 => exact fun _ _ e => e); (case k2 => exact Nat.le_refl _); (case k9 => exact List.forall_mem_nil _))
  intro L' h' tk' F' N' l1
  walk_at "mine texts"
  have hj : (Txt.join (Str.ofString ", ") [t1]).length ≤ 1000 := by rw [jl1]; omega
  k_steps
  · (with_reducible rename Fr _ _ _ _ => Fz)
    dsimp only
    exact hQ _ _ _ Fz.keep
  · exact absurd rfl (by assumption))
theorem wr_tup2 : ∀ {p : Program} {loose : List Str} {mean : ExcName → Option Value} {mg mb : Str → Option Value} (w : World) (s : Shared) (a : Addr) (v1 : Value) (t1 : Str) (l1 : t1.length ≤ 100) (v2 : Value) (t2 : Str) (l2 : t2.length ≤ 100) (ha : IsTup s.heap a #[v1, v2]) (c1 : WrOk 610 2100 w s.heap v1 t1) (c2 : WrOk 610 2100 w s.heap v2 t2)
    (Q E : Value → Shared → Prop) (KX : (hz.heap_188 w.params).In s.heap) (T : Top p loose mean mg mb s.heap)
    (hQ : ∀ h' tk (u : Tok), Grow s.heap h' → Q (.str (Str.ofString "(" ++ Txt.join (Str.ofString ", ") [t1, t2] ++ Str.ofString ")") u) { s with heap := h', toks := tk }),
    wpAny (model PySem.Challenge.rw_dm0028_09.prog w) (AD 600 2000) (call (.ref 210) [.ref a]) Q E s := by
  w_top off
  k_fill
  intro p loose mean mg mb w s a v1 t1 l1 v2 t2 l2 ha c1 c2 Q E KX T hQ
  obtain ⟨hh, g, dr, tk, os⟩ := s
  dsimp only at KX T ha c1 c2 hQ
  w_strict (
  refine wpAny_call ?_
  k_dflt (refine' enter_new (h₀ := hh) (binds := [("value", .ref a)]) (news := []) ?k1 ?k2 KX T.nolimit ?k9 ?k5 ?k6 ?k7 ?k8 ?kB ?c2 ?c3 ?c4 ?c5 ?_; (case k5 => k_is); (case k6 => k_is); (case k7 => exact Nat.le_of_ble_eq_true rfl); (case k8 => first | exact BindsTo.of_eq rfl | exact binds_K KX rfl (by k_is) rfl rfl rfl); (case c5 => decide); (case kB => exact locs rfl); (case c2 => exact rfl); (case c3 => exact rfl); (case c4 => exact rfl); (case k1 => exact fun _ _ e => e); (case k2 => exact Nat.le_refl _); (case k9 => exact List.forall_mem_nil _))
  intro L' h' tk' F' N' l1
  walk_at "mine texts"
  have hj : (Txt.join (Str.ofString ", ") [t1, t2]).length ≤ 1000 := by
    rw [jl2]
    have : (Str.ofString ", ").length = 2 := rfl
    omega
  k_steps
  · rename (((Array.size _ : Nat) : Int) = 1) => zz
    exact absurd zz (by simp)
  · (with_reducible rename Fr _ _ _ _ => Fz)
    dsimp only
    exact hQ _ _ _ Fz.keep)
theorem wr_list2 : ∀ {p : Program} {loose : List Str} {mean : ExcName → Option Value} {mg mb : Str → Option Value} (w : World) (s : Shared) (a : Addr) (v1 : Value) (t1 : Str) (l1 : t1.length ≤ 100) (v2 : Value) (t2 : Str) (l2 : t2.length ≤ 100) (ha : s.heap.IsList a #[v1, v2]) (c1 : WrOk 610 2100 w s.heap v1 t1) (c2 : WrOk 610 2100 w s.heap v2 t2)
    (Q E : Value → Shared → Prop) (KX : (hz.heap_188 w.params).In s.heap) (T : Top p loose mean mg mb s.heap)
    (hQ : ∀ h' tk (u : Tok), Grow s.heap h' → Q (.str (Str.ofString "[" ++ Txt.join (Str.ofString ", ") [t1, t2] ++ Str.ofString "]") u) { s with heap := h', toks := tk }),
    wpAny (model PySem.Challenge.rw_dm0028_09.prog w) (AD 600 2000) (call (.ref 210) [.ref a]) Q E s := by
  w_top off
  k_fill
  intro p loose mean mg mb w s a v1 t1 l1 v2 t2 l2 ha c1 c2 Q E KX T hQ
  obtain ⟨hh, g, dr, tk, os⟩ := s
  dsimp only at KX T ha c1 c2 hQ
  w_strict (
  refine wpAny_call ?_
  k_dflt (refine' enter_new (h₀ := hh) (binds := [("value", .ref a)]) (news := []) ?k1 ?k2 KX T.nolimit ?k9 ?k5 ?k6 ?k7 ?k8 ?kB ?c2 ?c3 ?c4 ?c5 ?_; (case k5 => k_is); (case k6 => k_is); (case k7 => exact Nat.le_of_ble_eq_true rfl); (case k8 => first | exact BindsTo.of_eq rfl | exact binds_K KX rfl (by k_is) rfl rfl rfl); (case c5 => decide); (case kB => exact locs rfl); (case c2 => exact rfl); (case c3 => exact rfl); (case c4 => exact rfl); (case k1 => exact fun _ _ e => e); (case k2 => exact Nat.le_refl _); (case k9 => exact List.forall_mem_nil _))
  intro L' h' tk' F' N' l1
  walk_at "mine texts"
  have hj : (Txt.join (Str.ofString ", ") [t1, t2]).length ≤ 1000 := by
    rw [jl2]
    have : (Str.ofString ", ").length = 2 := rfl
    omega
  k_steps
  (with_reducible rename Fr _ _ _ _ => Fz)
  dsimp only
  exact hQ _ _ _ Fz.keep)
end
section
theorem lay4 : True := by
  k_with_none
  k_with "ne" => (with_reducible (first | exact ns1 | exact ns2 | exact qlt (by assumption) | exact qgt (by assumption) | exact qne (by assumption) | exact qen (by assumption) | exact rlt (by assumption) | exact rgt (by assumption) | exact rne (by assumption) | exact ren (by assumption) | exact qlt (And.right (by assumption)) | exact qgt (And.right (by assumption)) | exact qne (And.right (by assumption)) | exact qen (And.right (by assumption)) | exact rlt (And.right (by assumption)) | exact rgt (And.right (by assumption)) | exact rne (And.right (by assumption)) | exact ren (And.right (by assumption)) | exact qlt (And.right (And.right (by assumption))) | exact qgt (And.right (And.right (by assumption))) | exact qne (And.right (And.right (by assumption))) | exact qen (And.right (And.right (by assumption))) | exact rlt (And.right (And.right (by assumption))) | exact rgt (And.right (And.right (by assumption))) | exact rne (And.right (And.right (by assumption))) | exact ren (And.right (And.right (by assumption))) | exact qlt (And.right (And.right (And.right (by assumption)))) | exact qgt (And.right (And.right (And.right (by assumption)))) | exact qne (And.right (And.right (And.right (by assumption)))) | exact qen (And.right (And.right (And.right (by assumption)))) | exact rlt (And.right (And.right (And.right (by assumption)))) | exact rgt (And.right (And.right (And.right (by assumption)))) | exact rne (And.right (And.right (And.right (by assumption)))) | exact ren (And.right (And.right (And.right (by assumption)))) | exact qlt (And.right (And.right (And.right (And.right (by assumption))))) | exact qgt (And.right (And.right (And.right (And.right (by assumption))))) | exact qne (And.right (And.right (And.right (And.right (by assumption))))) | exact qen (And.right (And.right (And.right (And.right (by assumption))))) | exact rlt (And.right (And.right (And.right (And.right (by assumption))))) | exact rgt (And.right (And.right (And.right (And.right (by assumption))))) | exact rne (And.right (And.right (And.right (And.right (by assumption))))) | exact ren (And.right (And.right (And.right (And.right (by assumption))))) | exact qlt (And.right (And.right (And.right (And.right (And.right (by assumption)))))) | exact qgt (And.right (And.right (And.right (And.right (And.right (by assumption)))))) | exact qne (And.right (And.right (And.right (And.right (And.right (by assumption)))))) | exact qen (And.right (And.right (And.right (And.right (And.right (by assumption)))))) | exact rlt (And.right (And.right (And.right (And.right (And.right (by assumption)))))) | exact rgt (And.right (And.right (And.right (And.right (And.right (by assumption)))))) | exact rne (And.right (And.right (And.right (And.right (And.right (by assumption)))))) | exact ren (And.right (And.right (And.right (And.right (And.right (by assumption)))))) | exact qlt (And.right (And.right (And.right (And.right (And.right (And.right (by assumption))))))) | exact qgt (And.right (And.right (And.right (And.right (And.right (And.right (by assumption))))))) | exact qne (And.right (And.right (And.right (And.right (And.right (And.right (by assumption))))))) | exact qen (And.right (And.right (And.right (And.right (And.right (And.right (by assumption))))))) | exact rlt (And.right (And.right (And.right (And.right (And.right (And.right (by assumption))))))) | exact rgt (And.right (And.right (And.right (And.right (And.right (And.right (by assumption))))))) | exact rne (And.right (And.right (And.right (And.right (And.right (And.right (by assumption))))))) | exact ren (And.right (And.right (And.right (And.right (And.right (And.right (by assumption))))))) | exact qlt (And.right (And.right (And.right (And.right (And.right (And.right (And.right (by assumption)))))))) | exact qgt (And.right (And.right (And.right (And.right (And.right (And.right (And.right (by assumption)))))))) | exact qne (And.right (And.right (And.right (And.right (And.right (And.right (And.right (by assumption)))))))) | exact qen (And.right (And.right (And.right (And.right (And.right (And.right (And.right (by assumption)))))))) | exact rlt (And.right (And.right (And.right (And.right (And.right (And.right (And.right (by assumption)))))))) | exact rgt (And.right (And.right (And.right (And.right (And.right (And.right (And.right (by assumption)))))))) | exact rne (And.right (And.right (And.right (And.right (And.right (And.right (And.right (by assumption)))))))) | exact ren (And.right (And.right (And.right (And.right (And.right (And.right (And.right (by assumption)))))))) | exact qlt (And.right (And.right (And.right (And.right (And.right (And.right (And.right (And.right (by assumption))))))))) | exact qgt (And.right (And.right (And.right (And.right (And.right (And.right (And.right (And.right (by assumption))))))))) | exact qne (And.right (And.right (And.right (And.right (And.right (And.right (And.right (And.right (by assumption))))))))) | exact qen (And.right (And.right (And.right (And.right (And.right (And.right (And.right (And.right (by assumption))))))))) | exact rlt (And.right (And.right (And.right (And.right (And.right (And.right (And.right (And.right (by assumption))))))))) | exact rgt (And.right (And.right (And.right (And.right (And.right (And.right (And.right (And.right (by assumption))))))))) | exact rne (And.right (And.right (And.right (And.right (And.right (And.right (And.right (And.right (by assumption))))))))) | exact ren (And.right (And.right (And.right (And.right (And.right (And.right (And.right (And.right (by assumption))))))))) | exact qlt (And.right (And.right (And.right (And.right (And.right (And.right (And.right (And.right (And.right (by assumption)))))))))) | exact qgt (And.right (And.right (And.right (And.right (And.right (And.right (And.right (And.right (And.right (by assumption)))))))))) | exact qne (And.right (And.right (And.right (And.right (And.right (And.right (And.right (And.right (And.right (by assumption)))))))))) | exact qen (And.right (And.right (And.right (And.right (And.right (And.right (And.right (And.right (And.right (by assumption)))))))))) | exact rlt (And.right (And.right (And.right (And.right (And.right (And.right (And.right (And.right (And.right (by assumption)))))))))) | exact rgt (And.right (And.right (And.right (And.right (And.right (And.right (And.right (And.right (And.right (by assumption)))))))))) | exact rne (And.right (And.right (And.right (And.right (And.right (And.right (And.right (And.right (And.right (by assumption)))))))))) | exact ren (And.right (And.right (And.right (And.right (And.right (And.right (And.right (And.right (And.right (by assumption)))))))))) | exact qlt (And.right (And.right (And.right (And.right (And.right (And.right (And.right (And.right (And.right (And.right (by assumption))))))))))) | exact qgt (And.right (And.right (And.right (And.right (And.right (And.right (And.right (And.right (And.right (And.right (by assumption))))))))))) | exact qne (And.right (And.right (And.right (And.right (And.right (And.right (And.right (And.right (And.right (And.right (by assumption))))))))))) | exact qen (And.right (And.right (And.right (And.right (And.right (And.right (And.right (And.right (And.right (And.right (by assumption))))))))))) | exact rlt (And.right (And.right (And.right (And.right (And.right (And.right (And.right (And.right (And.right (And.right (by assumption))))))))))) | exact rgt (And.right (And.right (And.right (And.right (And.right (And.right (And.right (And.right (And.right (And.right (by assumption))))))))))) | exact rne (And.right (And.right (And.right (And.right (And.right (And.right (And.right (And.right (And.right (And.right (by assumption))))))))))) | exact ren (And.right (And.right (And.right (And.right (And.right (And.right (And.right (And.right (And.right (And.right (by assumption))))))))))) | exact qlt (And.right (And.right (And.right (And.right (And.right (And.right (And.right (And.right (And.right (And.right (And.right (by assumption)))))))))))) | exact qgt (And.right (And.right (And.right (And.right (And.right (And.right (And.right (And.right (And.right (And.right (And.right (by assumption)))))))))))) | exact qne (And.right (And.right (And.right (And.right (And.right (And.right (And.right (And.right (And.right (And.right (And.right (by assumption)))))))))))) | exact qen (And.right (And.right (And.right (And.right (And.right (And.right (And.right (And.right (And.right (And.right (And.right (by assumption)))))))))))) | exact rlt (And.right (And.right (And.right (And.right (And.right (And.right (And.right (And.right (And.right (And.right (And.right (by assumption)))))))))))) | exact rgt (And.right (And.right (And.right (And.right (And.right (And.right (And.right (And.right (And.right (And.right (And.right (by assumption)))))))))))) | exact rne (And.right (And.right (And.right (And.right (And.right (And.right (And.right (And.right (And.right (And.right (And.right (by assumption)))))))))))) | exact ren (And.right (And.right (And.right (And.right (And.right (And.right (And.right (And.right (And.right (And.right (And.right (by assumption)))))))))))) | exact qlt (And.right (And.right (And.right (And.right (And.right (And.right (And.right (And.right (And.right (And.right (And.right (And.right (by assumption))))))))))))) | exact qgt (And.right (And.right (And.right (And.right (And.right (And.right (And.right (And.right (And.right (And.right (And.right (And.right (by assumption))))))))))))) | exact qne (And.right (And.right (And.right (And.right (And.right (And.right (And.right (And.right (And.right (And.right (And.right (And.right (by assumption))))))))))))) | exact qen (And.right (And.right (And.right (And.right (And.right (And.right (And.right (And.right (And.right (And.right (And.right (And.right (by assumption))))))))))))) | exact rlt (And.right (And.right (And.right (And.right (And.right (And.right (And.right (And.right (And.right (And.right (And.right (And.right (by assumption))))))))))))) | exact rgt (And.right (And.right (And.right (And.right (And.right (And.right (And.right (And.right (And.right (And.right (And.right (And.right (by assumption))))))))))))) | exact rne (And.right (And.right (And.right (And.right (And.right (And.right (And.right (And.right (And.right (And.right (And.right (And.right (by assumption))))))))))))) | exact ren (And.right (And.right (And.right (And.right (And.right (And.right (And.right (And.right (And.right (And.right (And.right (And.right (by assumption))))))))))))) | exact qlt (And.right (And.right (And.right (And.right (And.right (And.right (And.right (And.right (And.right (And.right (And.right (And.right (And.right (by assumption)))))))))))))) | exact qgt (And.right (And.right (And.right (And.right (And.right (And.right (And.right (And.right (And.right (And.right (And.right (And.right (And.right (by assumption)))))))))))))) | exact qne (And.right (And.right (And.right (And.right (And.right (And.right (And.right (And.right (And.right (And.right (And.right (And.right (And.right (by assumption)))))))))))))) | exact qen (And.right (And.right (And.right (And.right (And.right (And.right (And.right (And.right (And.right (And.right (And.right (And.right (And.right (by assumption)))))))))))))) | exact rlt (And.right (And.right (And.right (And.right (And.right (And.right (And.right (And.right (And.right (And.right (And.right (And.right (And.right (by assumption)))))))))))))) | exact rgt (And.right (And.right (And.right (And.right (And.right (And.right (And.right (And.right (And.right (And.right (And.right (And.right (And.right (by assumption)))))))))))))) | exact rne (And.right (And.right (And.right (And.right (And.right (And.right (And.right (And.right (And.right (And.right (And.right (And.right (And.right (by assumption)))))))))))))) | exact ren (And.right (And.right (And.right (And.right (And.right (And.right (And.right (And.right (And.right (And.right (And.right (And.right (And.right (by assumption)))))))))))))) | exact qlt (And.right (And.right (And.right (And.right (And.right (And.right (And.right (And.right (And.right (And.right (And.right (And.right (And.right (And.right (by assumption))))))))))))))) | exact qgt (And.right (And.right (And.right (And.right (And.right (And.right (And.right (And.right (And.right (And.right (And.right (And.right (And.right (And.right (by assumption))))))))))))))) | exact qne (And.right (And.right (And.right (And.right (And.right (And.right (And.right (And.right (And.right (And.right (And.right (And.right (And.right (And.right (by assumption))))))))))))))) | exact qen (And.right (And.right (And.right (And.right (And.right (And.right (And.right (And.right (And.right (And.right (And.right (And.right (And.right (And.right (by assumption))))))))))))))) | exact rlt (And.right (And.right (And.right (And.right (And.right (And.right (And.right (And.right (And.right (And.right (And.right (And.right (And.right (And.right (by assumption))))))))))))))) | exact rgt (And.right (And.right (And.right (And.right (And.right (And.right (And.right (And.right (And.right (And.right (And.right (And.right (And.right (And.right (by assumption))))))))))))))) | exact rne (And.right (And.right (And.right (And.right (And.right (And.right (And.right (And.right (And.right (And.right (And.right (And.right (And.right (And.right (by assumption))))))))))))))) | exact ren (And.right (And.right (And.right (And.right (And.right (And.right (And.right (And.right (And.right (And.right (And.right (And.right (And.right (And.right (by assumption))))))))))))))) | exact qlt (And.right (And.right (And.right (And.right (And.right (And.right (And.right (And.right (And.right (And.right (And.right (And.right (And.right (And.right (And.right (by assumption)))))))))))))))) | exact qgt (And.right (And.right (And.right (And.right (And.right (And.right (And.right (And.right (And.right (And.right (And.right (And.right (And.right (And.right (And.right (by assumption)))))))))))))))) | exact qne (And.right (And.right (And.right (And.right (And.right (And.right (And.right (And.right (And.right (And.right (And.right (And.right (And.right (And.right (And.right (by assumption)))))))))))))))) | exact qen (And.right (And.right (And.right (And.right (And.right (And.right (And.right (And.right (And.right (And.right (And.right (And.right (And.right (And.right (And.right (by assumption)))))))))))))))) | exact rlt (And.right (And.right (And.right (And.right (And.right (And.right (And.right (And.right (And.right (And.right (And.right (And.right (And.right (And.right (And.right (by assumption)))))))))))))))) | exact rgt (And.right (And.right (And.right (And.right (And.right (And.right (And.right (And.right (And.right (And.right (And.right (And.right (And.right (And.right (And.right (by assumption)))))))))))))))) | exact rne (And.right (And.right (And.right (And.right (And.right (And.right (And.right (And.right (And.right (And.right (And.right (And.right (And.right (And.right (And.right (by assumption)))))))))))))))) | exact ren (And.right (And.right (And.right (And.right (And.right (And.right (And.right (And.right (And.right (And.right (And.right (And.right (And.right (And.right (And.right (by assumption))))))))))))))))))
  trivial
theorem lay5 : True := by
  k_with "mine texts" => ((try dsimp only [← sx0, ← sx1, ← sx2, ← sx3, ← sx4, ← sx5, ← sx6, ← sx7, ← sx8, ← sx9, ← sx10, ← sx11, ← sx12, ← sx13, ← sx14, ← sx15, ← sx16, ← sx17, ← sx18, ← sx19, ← sx20, ← sx21, ← sx22, ← sx23, ← sx24, ← sx25, ← sx26, ← sx27, ← sx28, ← sx29, ← sx30, ← sx31, ← sx32, ← sx33, ← sx34, ← sx35, ← sx36, ← sx37, ← sx38, ← sx39, ← sx40, ← sx41, ← sx42, ← sx43, ← sx44, ← sx45, ← sx46, ← sx47, ← sx48, ← sx49, ← sx50, ← sx51, ← sx52, ← sx53, ← sx54, ← sx55, ← sx56, ← sx57, ← sx58, ← sx59, ← sx60, ← sx61, ← sx62, ← sx63, ← sx64, ← sx65, ← sx66, ← sx67, ← sx68, ← sx69, ← sx70, ← sx71, ← sx72, ← sx73, ← sx74, ← sx75, ← sx76, ← sx77, ← sx78, ← sx79, ← sx80, ← sx81, ← sx82, ← sx83, ← sx84, ← sx85, ← sx86, ← sx87, ← sx88, ← sx89, ← sx90, ← sx91, ← sx92, ← sx93, ← sx94, ← sx95, ← sx96, ← sx97, ← sx98, ← sx99, ← sx100, ← sx101, ← sx102, ← sx103, ← sx104, ← sx105, ← sx106, ← sx107, ← sx108, ← sx109, ← sx110, ← sx111, ← sx112, ← sx113]))
  k_with "mine drop" => (first | (refine' Drop.head ?a; (case a => k_all)) | (refine' Drop.tail ?a ?b; (case a => k_ne); (case b => walk_at "mine drop")))
  k_with "setAttr ref" => ((k_here; k_dflt (first | (refine' exc_set0 ?k1 ?k2 ?k3 ?k4 ?k5 ?k6 ?k7 ?k8 ?k9 ?_; (case k1 => k_asm); (case k2 => k_asm); (case k3 => k_asm); (case k4 => k_mem); (case k5 => k_is); (case k6 => kernel_rfl); (case k7 => k_is); (case k8 => k_is); (case k9 => intro zqd; k_upd); k_whole; intro zqdp zqhp zqFp zqNp zql1; (try k_lt zql1)) | (refine' exc_set_args ?k1 ?k2 ?k3 ?k4 ?k5 ?k6 ?k7 ?k8 ?k9 ?k10 ?_; (case k1 => k_asm); (case k2 => k_asm); (case k3 => k_asm); (case k4 => first | (refine' InstAt.of_exc ?N ?h1 ?h2; (case N => k_asm); (case h1 => k_mem); (case h2 => k_mem)) | (refine' InstAt.of_exc0 ?N ?h1; (case N => k_asm); (case h1 => k_mem))); (case k5 => exact isTup_of (by k_asm) (by k_mem)); (case k6 => k_is); (case k7 => kernel_rfl); (case k8 => k_is); (case k9 => k_is); (case k10 => k_upd); k_whole; intro zqhp zqFp zqNp) | (refine' exc_set ?k1 ?k2 ?k3 ?k4 ?k5 ?k6 ?k7 ?k8 ?k9 ?k10 ?k11 ?k12 ?_; (case k1 => k_asm); (case k2 => k_asm); (case k3 => k_asm); (case k4 => first | (refine' InstAt.of_exc ?N ?h1 ?h2; (case N => k_asm); (case h1 => k_mem); (case h2 => k_mem)) | (refine' InstAt.of_exc0 ?N ?h1; (case N => k_asm); (case h1 => k_mem))); (case k5 => k_is); (case k6 => kernel_rfl); (case k7 => k_is); (case k8 => k_is); (case k9 => k_get); (case k10 => k_put); (case k11 => k_upd); (case k12 => exact Nat.le_of_ble_eq_true rfl); k_whole; intro zqhp zqFp zqNp))))
  k_with "call builtin:Exception.__init__" => ((k_here; k_dflt (refine' exc_init_call ?k1 ?k2 ?k3 ?k4 ?k5 ?k6 ?_; (case k1 => k_asm); (case k2 => k_asm); (case k3 => k_asm); (case k4 => first | (refine' InstAt.of_exc ?N ?h1 ?h2; (case N => k_asm); (case h1 => k_mem); (case h2 => k_mem)) | (refine' InstAt.of_exc0 ?N ?h1; (case N => k_asm); (case h1 => k_mem))); (case k5 => k_is); (case k6 => intro zqt; k_upd); k_whole; intro zqtp zqhp zqFp zqNp zql1; (try k_lt zql1))))
  k_with "call builtin:repr" => ((k_here; k_dflt (refine' repr_use ?k1 ?k2 ?k3 ?k4 ?k5 ?k6 ?k7 ?_; (case k1 => assumption); (case k2 => k_asm); (case k3 => k_asm); (case k4 => exact rfl); (case k5 => exact rfl); (case k6 => exact Nat.le_of_ble_eq_true rfl); (case k7 => exact Nat.le_of_ble_eq_true rfl); k_whole; intro zqhp zqup zqtkp zqFp zqNp)))
  k_with "BackIn" => ((k_dflt (refine' back_ ?k1 ?k2 ?k3 ?_; (case k1 => k_asm); (case k2 => k_asm); (case k3 => walk_at "mine drop"); k_whole; intro zqFp zqNp; (try dsimp only))))
  k_with "call ref" => ((k_here; k_dflt (refine wpAny_call ?_; refine' enter_in ?k1 ?k2 ?k3 ?k4 ?k5 ?k6 ?k7 ?k8 ?kB ?c2 ?c3 ?c4 ?c5 ?_; (case k1 => k_asm); (case k2 => k_asm); (case k3 => k_asm); (case k4 => exact Top.nolimit (by assumption)); (case k5 => k_is); (case k6 => k_is); (case k7 => exact Nat.le_of_ble_eq_true rfl); (case k8 => first | ((with_reducible show BindsTo _ _ ⟨[_], []⟩ _); first | exact BindsTo.of_eq (binds := [(_, _)]) rfl | exact binds_K (binds := [(_, _)]) (by k_in) rfl (by k_is) rfl rfl rfl) | ((with_reducible show BindsTo _ _ ⟨[_, _], []⟩ _); first | exact BindsTo.of_eq (binds := [(_, _), (_, _)]) rfl | exact binds_K (binds := [(_, _), (_, _)]) (by k_in) rfl (by k_is) rfl rfl rfl) | ((with_reducible show BindsTo _ _ ⟨[_, _, _], []⟩ _); first | exact BindsTo.of_eq (binds := [(_, _), (_, _), (_, _)]) rfl | exact binds_K (binds := [(_, _), (_, _), (_, _)]) (by k_in) rfl (by k_is) rfl rfl rfl) | ((with_reducible show BindsTo _ _ ⟨[_, _, _, _], []⟩ _); first | exact BindsTo.of_eq (binds := [(_, _), (_, _), (_, _), (_, _)]) rfl | exact binds_K (binds := [(_, _), (_, _), (_, _), (_, _)]) (by k_in) rfl (by k_is) rfl rfl rfl) | ((with_reducible show BindsTo _ _ ⟨[_, _, _, _, _], []⟩ _); first | exact BindsTo.of_eq (binds := [(_, _), (_, _), (_, _), (_, _), (_, _)]) rfl | exact binds_K (binds := [(_, _), (_, _), (_, _), (_, _), (_, _)]) (by k_in) rfl (by k_is) rfl rfl rfl)); (case c5 => decide); (case kB => exact locs rfl); (case c2 => exact rfl); (case c3 => exact rfl); (case c4 => exact rfl); k_whole; intro zqoLp zqLp zqhp zqtkp zqFp zqNp zql1 zqn1; (try k_lt zql1); (try (replace zqn1 := allNe_of zqn1; simp only [AllNe, and_true] at zqn1)); (try dsimp only); walk_at "mine texts")))
  k_with "call builtin:str.join" => ((k_here; (with_reducible show wpAny _ _ (call (Value.builtin "str.join") [Value.str _ _, Value.ref _]) _ _ _); k_dflt (refine join_listC (by is_list) (by repeat constructor) (by decide) (by (simp only [List.map_cons, List.map_nil, List.sum_cons, List.sum_nil, List.length_cons, List.length_nil]; omega)) ?_); intro zqtp zqkp))
  k_with "getMethod type:Exception" => ((k_here; refine' method_type ?F ?X ?m (by decide +kernel) ?e ?h ?_; (case F => k_asm); (case X => k_asm); (case m => exact meta_Exception); (case e => k_dflt k_is); (case h => k_handed)))
  k_with "compareOp IsNot" => ((k_here; k_dflt (refine isNot_none (by assumption) ?_)))
  k_with "call builtin:str.format" => ((k_here; k_dflt (refine' line_use ?k1 ?k2 ?k3 ?k4 ?k5 ?k6 ?k7 ?_; (case k1 => assumption); (case k2 => k_asm); (case k3 => k_asm); (case k4 => exact rfl); (case k5 => exact rfl); (case k6 => exact Nat.le_of_ble_eq_true rfl); (case k7 => exact Nat.le_of_ble_eq_true rfl); k_whole; intro zqhp zqup zqtkp zqFp zqNp)))
  k_with "call builtin:str.format" => ((k_here; (with_reducible show wpAny _ _ (call (Value.builtin "str.format") [Value.str _ _, _, _, _, _]) _ _ _); k_dflt (refine' fmt_use ?k1 ?k2 ?k3 ?k4 ?k5 ?_; (case k1 => k_asm); (case k2 => k_asm); (case k3 => exact ⟨rfl, rfl, Nat.le_of_ble_eq_true rfl, Nat.le_of_ble_eq_true rfl⟩); (case k4 => exact args_5 _ _ _ _ _); (case k5 => walk_at "mine fmt")); k_whole; intro zqhp zqup zqtkp zqFp zqNp))
  k_with "pyReprObj" => ((k_here; k_dflt (refine' reprObj_use ?k1 ?k2 ?k3 ?k4 ?k5 ?k6 ?k7 ?_; (case k1 => assumption); (case k2 => k_asm); (case k3 => k_asm); (case k4 => exact rfl); (case k5 => exact rfl); (case k6 => exact Nat.le_of_ble_eq_true rfl); (case k7 => exact Nat.le_of_ble_eq_true rfl); k_whole; intro zqhp zqup zqtkp zqFp zqNp)))
  trivial
def Stop (P : Prop) : Prop := P
theorem stop_ {P : Prop} (h : Stop P) : P := h
theorem lay6 : True := by
  k_with "subscriptTail" => (((with_reducible show wpAny _ _ (subscriptTail (Expr.List _ _) _ (Value.ref _) (Value.int _ _)) _ _ _); k_dflt (refine' item_at ?k1 ?k2 ?k3 ?k4 ?_; (case k1 => is_list); (case k2 => exact Int.fmod_nonneg_of_pos _ (by decide)); (case k3 => exact Int.fmod_lt_of_pos _ (by decide)); (case k4 => exact Nat.le_of_ble_eq_true rfl)); (with_reducible refine stop_ ?_)))
  trivial
theorem val09 : ∀ {p : Program} {loose : List Str} {mean : ExcName → Option Value} {mg mb : Str → Option Value} (w : World) (s : Shared) (n : Int) (t : Tok) (one other : Addr)
    (Q E : Value → Shared → Prop) (KX : (hz.heap_188 w.params).In s.heap) (T : Top p loose mean mg mb s.heap)
    (hQ : ∀ h' tk (v : Value) (A3 A4 A6 : Addr) (t6 : Tok), Grow s.heap h' → ValC s.heap h' one other (n.fmod 7) v A3 A4 A6 t6 → Q (v) { s with heap := h', toks := tk }),
    wpAny (model PySem.Challenge.rw_dm0028_09.prog w) (AD 600 2000) (call (.ref 205) [.int n t, .ref one, .ref other]) Q E s := by
  w_top off
  k_fill
  intro p loose mean mg mb w s n t one other Q E KX T hQ
  obtain ⟨hh, g, dr, tk, os⟩ := s
  dsimp only at KX T  hQ
  w_strict (
  refine wpAny_call ?_
  k_dflt (refine' enter_new (h₀ := hh) (binds := [("number", .int n t), ("one", .ref one), ("other", .ref other)]) (news := []) ?k1 ?k2 KX T.nolimit ?k9 ?k5 ?k6 ?k7 ?k8 ?kB ?c2 ?c3 ?c4 ?c5 ?_; (case k5 => k_is); (case k6 => k_is); (case k7 => exact Nat.le_of_ble_eq_true rfl); (case k8 => first | exact BindsTo.of_eq rfl | exact binds_K KX rfl (by k_is) rfl rfl rfl); (case c5 => decide); (case kB => exact locs rfl); (case c2 => exact rfl); (case c3 => exact rfl); (case c4 => exact rfl); (case k1 => exact fun _ _ e => e); (case k2 => exact Nat.le_refl _); (case k9 => exact List.forall_mem_nil _))
  intro L' h' tk' F' N' l1
  walk_at "mine texts"
  k_steps
  unfold Stop
  (with_reducible rename Fr _ _ _ _ => Fz)
  (with_reducible rename News _ _ _ _ => Nz)
  intro i x hx hk
  refine hQ _ _ x _ _ _ _ Fz.keep (valc_of Nz (by k_mem) (by k_mem) (by k_mem) ?_)
  rcases i with _ | _ | _ | _ | _ | _ | _ | i
  · cases hx; exact .inl ⟨hk, rfl⟩
  · cases hx; exact .inr (.inl ⟨hk, rfl⟩)
  · cases hx; exact .inr (.inr (.inl ⟨hk, _, rfl⟩))
  · cases hx; exact .inr (.inr (.inr (.inl ⟨hk, rfl⟩)))
  · cases hx; exact .inr (.inr (.inr (.inr (.inl ⟨hk, rfl⟩))))
  · cases hx; exact .inr (.inr (.inr (.inr (.inr (.inl ⟨hk, _, rfl⟩)))))
  · cases hx; exact .inr (.inr (.inr (.inr (.inr (.inr ⟨hk, rfl⟩)))))
  · cases hx)
end
section
theorem lay7 : True := by
  k_with_none
  k_with "ne" => (with_reducible (first | exact ns1 | exact ns2 | exact qlt (by assumption) | exact qgt (by assumption) | exact qne (by assumption) | exact qen (by assumption) | exact rlt (by assumption) | exact rgt (by assumption) | exact rne (by assumption) | exact ren (by assumption) | exact qlt (And.right (by assumption)) | exact qgt (And.right (by assumption)) | exact qne (And.right (by assumption)) | exact qen (And.right (by assumption)) | exact rlt (And.right (by assumption)) | exact rgt (And.right (by assumption)) | exact rne (And.right (by assumption)) | exact ren (And.right (by assumption)) | exact qlt (And.right (And.right (by assumption))) | exact qgt (And.right (And.right (by assumption))) | exact qne (And.right (And.right (by assumption))) | exact qen (And.right (And.right (by assumption))) | exact rlt (And.right (And.right (by assumption))) | exact rgt (And.right (And.right (by assumption))) | exact rne (And.right (And.right (by assumption))) | exact ren (And.right (And.right (by assumption))) | exact qlt (And.right (And.right (And.right (by assumption)))) | exact qgt (And.right (And.right (And.right (by assumption)))) | exact qne (And.right (And.right (And.right (by assumption)))) | exact qen (And.right (And.right (And.right (by assumption)))) | exact rlt (And.right (And.right (And.right (by assumption)))) | exact rgt (And.right (And.right (And.right (by assumption)))) | exact rne (And.right (And.right (And.right (by assumption)))) | exact ren (And.right (And.right (And.right (by assumption)))) | exact qlt (And.right (And.right (And.right (And.right (by assumption))))) | exact qgt (And.right (And.right (And.right (And.right (by assumption))))) | exact qne (And.right (And.right (And.right (And.right (by assumption))))) | exact qen (And.right (And.right (And.right (And.right (by assumption))))) | exact rlt (And.right (And.right (And.right (And.right (by assumption))))) | exact rgt (And.right (And.right (And.right (And.right (by assumption))))) | exact rne (And.right (And.right (And.right (And.right (by assumption))))) | exact ren (And.right (And.right (And.right (And.right (by assumption))))) | exact qlt (And.right (And.right (And.right (And.right (And.right (by assumption)))))) | exact qgt (And.right (And.right (And.right (And.right (And.right (by assumption)))))) | exact qne (And.right (And.right (And.right (And.right (And.right (by assumption)))))) | exact qen (And.right (And.right (And.right (And.right (And.right (by assumption)))))) | exact rlt (And.right (And.right (And.right (And.right (And.right (by assumption)))))) | exact rgt (And.right (And.right (And.right (And.right (And.right (by assumption)))))) | exact rne (And.right (And.right (And.right (And.right (And.right (by assumption)))))) | exact ren (And.right (And.right (And.right (And.right (And.right (by assumption)))))) | exact qlt (And.right (And.right (And.right (And.right (And.right (And.right (by assumption))))))) | exact qgt (And.right (And.right (And.right (And.right (And.right (And.right (by assumption))))))) | exact qne (And.right (And.right (And.right (And.right (And.right (And.right (by assumption))))))) | exact qen (And.right (And.right (And.right (And.right (And.right (And.right (by assumption))))))) | exact rlt (And.right (And.right (And.right (And.right (And.right (And.right (by assumption))))))) | exact rgt (And.right (And.right (And.right (And.right (And.right (And.right (by assumption))))))) | exact rne (And.right (And.right (And.right (And.right (And.right (And.right (by assumption))))))) | exact ren (And.right (And.right (And.right (And.right (And.right (And.right (by assumption))))))) | exact qlt (And.right (And.right (And.right (And.right (And.right (And.right (And.right (by assumption)))))))) | exact qgt (And.right (And.right (And.right (And.right (And.right (And.right (And.right (by assumption)))))))) | exact qne (And.right (And.right (And.right (And.right (And.right (And.right (And.right (by assumption)))))))) | exact qen (And.right (And.right (And.right (And.right (And.right (And.right (And.right (by assumption)))))))) | exact rlt (And.right (And.right (And.right (And.right (And.right (And.right (And.right (by assumption)))))))) | exact rgt (And.right (And.right (And.right (And.right (And.right (And.right (And.right (by assumption)))))))) | exact rne (And.right (And.right (And.right (And.right (And.right (And.right (And.right (by assumption)))))))) | exact ren (And.right (And.right (And.right (And.right (And.right (And.right (And.right (by assumption)))))))) | exact qlt (And.right (And.right (And.right (And.right (And.right (And.right (And.right (And.right (by assumption))))))))) | exact qgt (And.right (And.right (And.right (And.right (And.right (And.right (And.right (And.right (by assumption))))))))) | exact qne (And.right (And.right (And.right (And.right (And.right (And.right (And.right (And.right (by assumption))))))))) | exact qen (And.right (And.right (And.right (And.right (And.right (And.right (And.right (And.right (by assumption))))))))) | exact rlt (And.right (And.right (And.right (And.right (And.right (And.right (And.right (And.right (by assumption))))))))) | exact rgt (And.right (And.right (And.right (And.right (And.right (And.right (And.right (And.right (by assumption))))))))) | exact rne (And.right (And.right (And.right (And.right (And.right (And.right (And.right (And.right (by assumption))))))))) | exact ren (And.right (And.right (And.right (And.right (And.right (And.right (And.right (And.right (by assumption))))))))) | exact qlt (And.right (And.right (And.right (And.right (And.right (And.right (And.right (And.right (And.right (by assumption)))))))))) | exact qgt (And.right (And.right (And.right (And.right (And.right (And.right (And.right (And.right (And.right (by assumption)))))))))) | exact qne (And.right (And.right (And.right (And.right (And.right (And.right (And.right (And.right (And.right (by assumption)))))))))) | exact qen (And.right (And.right (And.right (And.right (And.right (And.right (And.right (And.right (And.right (by assumption)))))))))) | exact rlt (And.right (And.right (And.right (And.right (And.right (And.right (And.right (And.right (And.right (by assumption)))))))))) | exact rgt (And.right (And.right (And.right (And.right (And.right (And.right (And.right (And.right (And.right (by assumption)))))))))) | exact rne (And.right (And.right (And.right (And.right (And.right (And.right (And.right (And.right (And.right (by assumption)))))))))) | exact ren (And.right (And.right (And.right (And.right (And.right (And.right (And.right (And.right (And.right (by assumption)))))))))) | exact qlt (And.right (And.right (And.right (And.right (And.right (And.right (And.right (And.right (And.right (And.right (by assumption))))))))))) | exact qgt (And.right (And.right (And.right (And.right (And.right (And.right (And.right (And.right (And.right (And.right (by assumption))))))))))) | exact qne (And.right (And.right (And.right (And.right (And.right (And.right (And.right (And.right (And.right (And.right (by assumption))))))))))) | exact qen (And.right (And.right (And.right (And.right (And.right (And.right (And.right (And.right (And.right (And.right (by assumption))))))))))) | exact rlt (And.right (And.right (And.right (And.right (And.right (And.right (And.right (And.right (And.right (And.right (by assumption))))))))))) | exact rgt (And.right (And.right (And.right (And.right (And.right (And.right (And.right (And.right (And.right (And.right (by assumption))))))))))) | exact rne (And.right (And.right (And.right (And.right (And.right (And.right (And.right (And.right (And.right (And.right (by assumption))))))))))) | exact ren (And.right (And.right (And.right (And.right (And.right (And.right (And.right (And.right (And.right (And.right (by assumption))))))))))) | exact qlt (And.right (And.right (And.right (And.right (And.right (And.right (And.right (And.right (And.right (And.right (And.right (by assumption)))))))))))) | exact qgt (And.right (And.right (And.right (And.right (And.right (And.right (And.right (And.right (And.right (And.right (And.right (by assumption)))))))))))) | exact qne (And.right (And.right (And.right (And.right (And.right (And.right (And.right (And.right (And.right (And.right (And.right (by assumption)))))))))))) | exact qen (And.right (And.right (And.right (And.right (And.right (And.right (And.right (And.right (And.right (And.right (And.right (by assumption)))))))))))) | exact rlt (And.right (And.right (And.right (And.right (And.right (And.right (And.right (And.right (And.right (And.right (And.right (by assumption)))))))))))) | exact rgt (And.right (And.right (And.right (And.right (And.right (And.right (And.right (And.right (And.right (And.right (And.right (by assumption)))))))))))) | exact rne (And.right (And.right (And.right (And.right (And.right (And.right (And.right (And.right (And.right (And.right (And.right (by assumption)))))))))))) | exact ren (And.right (And.right (And.right (And.right (And.right (And.right (And.right (And.right (And.right (And.right (And.right (by assumption)))))))))))) | exact qlt (And.right (And.right (And.right (And.right (And.right (And.right (And.right (And.right (And.right (And.right (And.right (And.right (by assumption))))))))))))) | exact qgt (And.right (And.right (And.right (And.right (And.right (And.right (And.right (And.right (And.right (And.right (And.right (And.right (by assumption))))))))))))) | exact qne (And.right (And.right (And.right (And.right (And.right (And.right (And.right (And.right (And.right (And.right (And.right (And.right (by assumption))))))))))))) | exact qen (And.right (And.right (And.right (And.right (And.right (And.right (And.right (And.right (And.right (And.right (And.right (And.right (by assumption))))))))))))) | exact rlt (And.right (And.right (And.right (And.right (And.right (And.right (And.right (And.right (And.right (And.right (And.right (And.right (by assumption))))))))))))) | exact rgt (And.right (And.right (And.right (And.right (And.right (And.right (And.right (And.right (And.right (And.right (And.right (And.right (by assumption))))))))))))) | exact rne (And.right (And.right (And.right (And.right (And.right (And.right (And.right (And.right (And.right (And.right (And.right (And.right (by assumption))))))))))))) | exact ren (And.right (And.right (And.right (And.right (And.right (And.right (And.right (And.right (And.right (And.right (And.right (And.right (by assumption))))))))))))) | exact qlt (And.right (And.right (And.right (And.right (And.right (And.right (And.right (And.right (And.right (And.right (And.right (And.right (And.right (by assumption)))))))))))))) | exact qgt (And.right (And.right (And.right (And.right (And.right (And.right (And.right (And.right (And.right (And.right (And.right (And.right (And.right (by assumption)))))))))))))) | exact qne (And.right (And.right (And.right (And.right (And.right (And.right (And.right (And.right (And.right (And.right (And.right (And.right (And.right (by assumption)))))))))))))) | exact qen (And.right (And.right (And.right (And.right (And.right (And.right (And.right (And.right (And.right (And.right (And.right (And.right (And.right (by assumption)))))))))))))) | exact rlt (And.right (And.right (And.right (And.right (And.right (And.right (And.right (And.right (And.right (And.right (And.right (And.right (And.right (by assumption)))))))))))))) | exact rgt (And.right (And.right (And.right (And.right (And.right (And.right (And.right (And.right (And.right (And.right (And.right (And.right (And.right (by assumption)))))))))))))) | exact rne (And.right (And.right (And.right (And.right (And.right (And.right (And.right (And.right (And.right (And.right (And.right (And.right (And.right (by assumption)))))))))))))) | exact ren (And.right (And.right (And.right (And.right (And.right (And.right (And.right (And.right (And.right (And.right (And.right (And.right (And.right (by assumption)))))))))))))) | exact qlt (And.right (And.right (And.right (And.right (And.right (And.right (And.right (And.right (And.right (And.right (And.right (And.right (And.right (And.right (by assumption))))))))))))))) | exact qgt (And.right (And.right (And.right (And.right (And.right (And.right (And.right (And.right (And.right (And.right (And.right (And.right (And.right (And.right (by assumption))))))))))))))) | exact qne (And.right (And.right (And.right (And.right (And.right (And.right (And.right (And.right (And.right (And.right (And.right (And.right (And.right (And.right (by assumption))))))))))))))) | exact qen (And.right (And.right (And.right (And.right (And.right (And.right (And.right (And.right (And.right (And.right (And.right (And.right (And.right (And.right (by assumption))))))))))))))) | exact rlt (And.right (And.right (And.right (And.right (And.right (And.right (And.right (And.right (And.right (And.right (And.right (And.right (And.right (And.right (by assumption))))))))))))))) | exact rgt (And.right (And.right (And.right (And.right (And.right (And.right (And.right (And.right (And.right (And.right (And.right (And.right (And.right (And.right (by assumption))))))))))))))) | exact rne (And.right (And.right (And.right (And.right (And.right (And.right (And.right (And.right (And.right (And.right (And.right (And.right (And.right (And.right (by assumption))))))))))))))) | exact ren (And.right (And.right (And.right (And.right (And.right (And.right (And.right (And.right (And.right (And.right (And.right (And.right (And.right (And.right (by assumption))))))))))))))) | exact qlt (And.right (And.right (And.right (And.right (And.right (And.right (And.right (And.right (And.right (And.right (And.right (And.right (And.right (And.right (And.right (by assumption)))))))))))))))) | exact qgt (And.right (And.right (And.right (And.right (And.right (And.right (And.right (And.right (And.right (And.right (And.right (And.right (And.right (And.right (And.right (by assumption)))))))))))))))) | exact qne (And.right (And.right (And.right (And.right (And.right (And.right (And.right (And.right (And.right (And.right (And.right (And.right (And.right (And.right (And.right (by assumption)))))))))))))))) | exact qen (And.right (And.right (And.right (And.right (And.right (And.right (And.right (And.right (And.right (And.right (And.right (And.right (And.right (And.right (And.right (by assumption)))))))))))))))) | exact rlt (And.right (And.right (And.right (And.right (And.right (And.right (And.right (And.right (And.right (And.right (And.right (And.right (And.right (And.right (And.right (by assumption)))))))))))))))) | exact rgt (And.right (And.right (And.right (And.right (And.right (And.right (And.right (And.right (And.right (And.right (And.right (And.right (And.right (And.right (And.right (by assumption)))))))))))))))) | exact rne (And.right (And.right (And.right (And.right (And.right (And.right (And.right (And.right (And.right (And.right (And.right (And.right (And.right (And.right (And.right (by assumption)))))))))))))))) | exact ren (And.right (And.right (And.right (And.right (And.right (And.right (And.right (And.right (And.right (And.right (And.right (And.right (And.right (And.right (And.right (by assumption))))))))))))))))))
  trivial
theorem lay8 : True := by
  k_with "mine texts" => ((try dsimp only [← sx0, ← sx1, ← sx2, ← sx3, ← sx4, ← sx5, ← sx6, ← sx7, ← sx8, ← sx9, ← sx10, ← sx11, ← sx12, ← sx13, ← sx14, ← sx15, ← sx16, ← sx17, ← sx18, ← sx19, ← sx20, ← sx21, ← sx22, ← sx23, ← sx24, ← sx25, ← sx26, ← sx27, ← sx28, ← sx29, ← sx30, ← sx31, ← sx32, ← sx33, ← sx34, ← sx35, ← sx36, ← sx37, ← sx38, ← sx39, ← sx40, ← sx41, ← sx42, ← sx43, ← sx44, ← sx45, ← sx46, ← sx47, ← sx48, ← sx49, ← sx50, ← sx51, ← sx52, ← sx53, ← sx54, ← sx55, ← sx56, ← sx57, ← sx58, ← sx59, ← sx60, ← sx61, ← sx62, ← sx63, ← sx64, ← sx65, ← sx66, ← sx67, ← sx68, ← sx69, ← sx70, ← sx71, ← sx72, ← sx73, ← sx74, ← sx75, ← sx76, ← sx77, ← sx78, ← sx79, ← sx80, ← sx81, ← sx82, ← sx83, ← sx84, ← sx85, ← sx86, ← sx87, ← sx88, ← sx89, ← sx90, ← sx91, ← sx92, ← sx93, ← sx94, ← sx95, ← sx96, ← sx97, ← sx98, ← sx99, ← sx100, ← sx101, ← sx102, ← sx103, ← sx104, ← sx105, ← sx106, ← sx107, ← sx108, ← sx109, ← sx110, ← sx111, ← sx112, ← sx113]))
  k_with "mine drop" => (first | (refine' Drop.head ?a; (case a => k_all)) | (refine' Drop.tail ?a ?b; (case a => k_ne); (case b => walk_at "mine drop")))
  k_with "setAttr ref" => ((k_here; k_dflt (first | (refine' exc_set0 ?k1 ?k2 ?k3 ?k4 ?k5 ?k6 ?k7 ?k8 ?k9 ?_; (case k1 => k_asm); (case k2 => k_asm); (case k3 => k_asm); (case k4 => k_mem); (case k5 => k_is); (case k6 => kernel_rfl); (case k7 => k_is); (case k8 => k_is); (case k9 => intro zqd; k_upd); k_whole; intro zqdp zqhp zqFp zqNp zql1; (try k_lt zql1)) | (refine' exc_set_args ?k1 ?k2 ?k3 ?k4 ?k5 ?k6 ?k7 ?k8 ?k9 ?k10 ?_; (case k1 => k_asm); (case k2 => k_asm); (case k3 => k_asm); (case k4 => first | (refine' InstAt.of_exc ?N ?h1 ?h2; (case N => k_asm); (case h1 => k_mem); (case h2 => k_mem)) | (refine' InstAt.of_exc0 ?N ?h1; (case N => k_asm); (case h1 => k_mem))); (case k5 => exact isTup_of (by k_asm) (by k_mem)); (case k6 => k_is); (case k7 => kernel_rfl); (case k8 => k_is); (case k9 => k_is); (case k10 => k_upd); k_whole; intro zqhp zqFp zqNp) | (refine' exc_set ?k1 ?k2 ?k3 ?k4 ?k5 ?k6 ?k7 ?k8 ?k9 ?k10 ?k11 ?k12 ?_; (case k1 => k_asm); (case k2 => k_asm); (case k3 => k_asm); (case k4 => first | (refine' InstAt.of_exc ?N ?h1 ?h2; (case N => k_asm); (case h1 => k_mem); (case h2 => k_mem)) | (refine' InstAt.of_exc0 ?N ?h1; (case N => k_asm); (case h1 => k_mem))); (case k5 => k_is); (case k6 => kernel_rfl); (case k7 => k_is); (case k8 => k_is); (case k9 => k_get); (case k10 => k_put); (case k11 => k_upd); (case k12 => exact Nat.le_of_ble_eq_true rfl); k_whole; intro zqhp zqFp zqNp))))
  k_with "call builtin:Exception.__init__" => ((k_here; k_dflt (refine' exc_init_call ?k1 ?k2 ?k3 ?k4 ?k5 ?k6 ?_; (case k1 => k_asm); (case k2 => k_asm); (case k3 => k_asm); (case k4 => first | (refine' InstAt.of_exc ?N ?h1 ?h2; (case N => k_asm); (case h1 => k_mem); (case h2 => k_mem)) | (refine' InstAt.of_exc0 ?N ?h1; (case N => k_asm); (case h1 => k_mem))); (case k5 => k_is); (case k6 => intro zqt; k_upd); k_whole; intro zqtp zqhp zqFp zqNp zql1; (try k_lt zql1))))
  k_with "call builtin:repr" => ((k_here; k_dflt (refine' repr_use ?k1 ?k2 ?k3 ?k4 ?k5 ?k6 ?k7 ?_; (case k1 => assumption); (case k2 => k_asm); (case k3 => k_asm); (case k4 => exact rfl); (case k5 => exact rfl); (case k6 => exact Nat.le_of_ble_eq_true rfl); (case k7 => exact Nat.le_of_ble_eq_true rfl); k_whole; intro zqhp zqup zqtkp zqFp zqNp)))
  k_with "BackIn" => ((k_dflt (refine' back_ ?k1 ?k2 ?k3 ?_; (case k1 => k_asm); (case k2 => k_asm); (case k3 => walk_at "mine drop"); k_whole; intro zqFp zqNp; (try dsimp only))))
  k_with "call ref" => ((k_here; k_dflt (refine wpAny_call ?_; refine' enter_in ?k1 ?k2 ?k3 ?k4 ?k5 ?k6 ?k7 ?k8 ?kB ?c2 ?c3 ?c4 ?c5 ?_; (case k1 => k_asm); (case k2 => k_asm); (case k3 => k_asm); (case k4 => exact Top.nolimit (by assumption)); (case k5 => k_is); (case k6 => k_is); (case k7 => exact Nat.le_of_ble_eq_true rfl); (case k8 => first | ((with_reducible show BindsTo _ _ ⟨[_], []⟩ _); first | exact BindsTo.of_eq (binds := [(_, _)]) rfl | exact binds_K (binds := [(_, _)]) (by k_in) rfl (by k_is) rfl rfl rfl) | ((with_reducible show BindsTo _ _ ⟨[_, _], []⟩ _); first | exact BindsTo.of_eq (binds := [(_, _), (_, _)]) rfl | exact binds_K (binds := [(_, _), (_, _)]) (by k_in) rfl (by k_is) rfl rfl rfl) | ((with_reducible show BindsTo _ _ ⟨[_, _, _], []⟩ _); first | exact BindsTo.of_eq (binds := [(_, _), (_, _), (_, _)]) rfl | exact binds_K (binds := [(_, _), (_, _), (_, _)]) (by k_in) rfl (by k_is) rfl rfl rfl) | ((with_reducible show BindsTo _ _ ⟨[_, _, _, _], []⟩ _); first | exact BindsTo.of_eq (binds := [(_, _), (_, _), (_, _), (_, _)]) rfl | exact binds_K (binds := [(_, _), (_, _), (_, _), (_, _)]) (by k_in) rfl (by k_is) rfl rfl rfl) | ((with_reducible show BindsTo _ _ ⟨[_, _, _, _, _], []⟩ _); first | exact BindsTo.of_eq (binds := [(_, _), (_, _), (_, _), (_, _), (_, _)]) rfl | exact binds_K (binds := [(_, _), (_, _), (_, _), (_, _), (_, _)]) (by k_in) rfl (by k_is) rfl rfl rfl)); (case c5 => decide); (case kB => exact locs rfl); (case c2 => exact rfl); (case c3 => exact rfl); (case c4 => exact rfl); k_whole; intro zqoLp zqLp zqhp zqtkp zqFp zqNp zql1 zqn1; (try k_lt zql1); (try (replace zqn1 := allNe_of zqn1; simp only [AllNe, and_true] at zqn1)); (try dsimp only); walk_at "mine texts")))
  k_with "call builtin:str.join" => ((k_here; (with_reducible show wpAny _ _ (call (Value.builtin "str.join") [Value.str _ _, Value.ref _]) _ _ _); k_dflt (refine join_listC (by is_list) (by repeat constructor) (by decide) (by (simp only [List.map_cons, List.map_nil, List.sum_cons, List.sum_nil, List.length_cons, List.length_nil]; omega)) ?_); intro zqtp zqkp))
  k_with "getMethod type:Exception" => ((k_here; refine' method_type ?F ?X ?m (by decide +kernel) ?e ?h ?_; (case F => k_asm); (case X => k_asm); (case m => exact meta_Exception); (case e => k_dflt k_is); (case h => k_handed)))
  k_with "compareOp IsNot" => ((k_here; k_dflt (refine isNot_none (by assumption) ?_)))
  k_with "call builtin:str.format" => ((k_here; k_dflt (refine' line_use ?k1 ?k2 ?k3 ?k4 ?k5 ?k6 ?k7 ?_; (case k1 => assumption); (case k2 => k_asm); (case k3 => k_asm); (case k4 => exact rfl); (case k5 => exact rfl); (case k6 => exact Nat.le_of_ble_eq_true rfl); (case k7 => exact Nat.le_of_ble_eq_true rfl); k_whole; intro zqhp zqup zqtkp zqFp zqNp)))
  k_with "call builtin:str.format" => ((k_here; (with_reducible show wpAny _ _ (call (Value.builtin "str.format") [Value.str _ _, _, _, _, _]) _ _ _); k_dflt (refine' fmt_use ?k1 ?k2 ?k3 ?k4 ?k5 ?_; (case k1 => k_asm); (case k2 => k_asm); (case k3 => exact ⟨rfl, rfl, Nat.le_of_ble_eq_true rfl, Nat.le_of_ble_eq_true rfl⟩); (case k4 => exact args_5 _ _ _ _ _); (case k5 => walk_at "mine fmt")); k_whole; intro zqhp zqup zqtkp zqFp zqNp))
  k_with "pyReprObj" => ((k_here; k_dflt (refine' reprObj_use ?k1 ?k2 ?k3 ?k4 ?k5 ?k6 ?k7 ?_; (case k1 => assumption); (case k2 => k_asm); (case k3 => k_asm); (case k4 => exact rfl); (case k5 => exact rfl); (case k6 => exact Nat.le_of_ble_eq_true rfl); (case k7 => exact Nat.le_of_ble_eq_true rfl); k_whole; intro zqhp zqup zqtkp zqFp zqNp)))
  k_with "getAttr ref" => ((k_here; (with_reducible rename Gets _ _ _ _ _ _ => zg); k_dflt (refine' gets_use (by assumption) ?k2 ?_; (case k2 => k_asm))))
  trivial
theorem msg09 : ∀ {p : Program} {loose : List Str} {mean : ExcName → Option Value} {mg mb : Str → Option Value} (w : World) (s : Shared) (e : Addr) (t : Str) (u0 : Tok) (G : Gets PySem.Challenge.rw_dm0028_09.prog w s.heap e (Str.ofString "message") (.str t u0))
    (Q E : Value → Shared → Prop) (KX : (hz.heap_188 w.params).In s.heap) (T : Top p loose mean mg mb s.heap)
    (hQ : ∀ h' tk (u : Tok), Grow s.heap h' → Q (.str t u) { s with heap := h', toks := tk }),
    wpAny (model PySem.Challenge.rw_dm0028_09.prog w) (AN 880 4400) (call (.ref 36) [.ref e]) Q E s := by
  w_top off
  k_fill
  intro p loose mean mg mb w s e t u0 G Q E KX T hQ
  obtain ⟨hh, g, dr, tk, os⟩ := s
  dsimp only at KX T G hQ
  w_strict (
  refine wpAny_call ?_
  k_dflt (refine' enter_new (h₀ := hh) (binds := [("self", .ref e)]) (news := []) ?k1 ?k2 KX T.nolimit ?k9 ?k5 ?k6 ?k7 ?k8 ?kB ?c2 ?c3 ?c4 ?c5 ?_; (case k5 => k_is); (case k6 => k_is); (case k7 => exact Nat.le_of_ble_eq_true rfl); (case k8 => first | exact BindsTo.of_eq rfl | exact binds_K KX rfl (by k_is) rfl rfl rfl); (case c5 => decide); (case kB => exact locs rfl); (case c2 => exact rfl); (case c3 => exact rfl); (case c4 => exact rfl); (case k1 => exact fun _ _ e => e); (case k2 => exact Nat.le_refl _); (case k9 => exact List.forall_mem_nil _))
  intro L' h' tk' F' N' l1
  walk_at "mine texts"
  k_steps
  dsimp only
  exact hQ _ _ _ F'.keep)
theorem rep09 : ∀ {p : Program} {loose : List Str} {mean : ExcName → Option Value} {mg mb : Str → Option Value} (w : World) (s : Shared) (e : Addr)
    (Q E : Value → Shared → Prop) (KX : (hz.heap_188 w.params).In s.heap) (T : Top p loose mean mg mb s.heap)
    (hQ : ∀ h' tk (u : Tok), Grow s.heap h' → Q (.str (Str.ofString "<UNNAMED_SECTION>") u) { s with heap := h', toks := tk }),
    wpAny (model PySem.Challenge.rw_dm0028_09.prog w) (AN 880 4400) (call (.ref 191) [.ref e]) Q E s := by
  w_top off
  k_fill
  intro p loose mean mg mb w s e Q E KX T hQ
  obtain ⟨hh, g, dr, tk, os⟩ := s
  dsimp only at KX T  hQ
  w_strict (
  refine wpAny_call ?_
  k_dflt (refine' enter_new (h₀ := hh) (binds := [("self", .ref e)]) (news := []) ?k1 ?k2 KX T.nolimit ?k9 ?k5 ?k6 ?k7 ?k8 ?kB ?c2 ?c3 ?c4 ?c5 ?_; (case k5 => k_is); (case k6 => k_is); (case k7 => exact Nat.le_of_ble_eq_true rfl); (case k8 => first | exact BindsTo.of_eq rfl | exact binds_K KX rfl (by k_is) rfl rfl rfl); (case c5 => decide); (case kB => exact locs rfl); (case c2 => exact rfl); (case c3 => exact rfl); (case c4 => exact rfl); (case k1 => exact fun _ _ e => e); (case k2 => exact Nat.le_refl _); (case k9 => exact List.forall_mem_nil _))
  intro L' h' tk' F' N' l1
  walk_at "mine texts"
  k_steps
  dsimp only
  exact hQ _ _ _ F'.keep)
end
section
theorem lay9 : True := by
  k_with_none
  k_with "ne" => (with_reducible (first | exact ns1 | exact ns2 | exact qlt (by assumption) | exact qgt (by assumption) | exact qne (by assumption) | exact qen (by assumption) | exact rlt (by assumption) | exact rgt (by assumption) | exact rne (by assumption) | exact ren (by assumption) | exact qlt (And.right (by assumption)) | exact qgt (And.right (by assumption)) | exact qne (And.right (by assumption)) | exact qen (And.right (by assumption)) | exact rlt (And.right (by assumption)) | exact rgt (And.right (by assumption)) | exact rne (And.right (by assumption)) | exact ren (And.right (by assumption)) | exact qlt (And.right (And.right (by assumption))) | exact qgt (And.right (And.right (by assumption))) | exact qne (And.right (And.right (by assumption))) | exact qen (And.right (And.right (by assumption))) | exact rlt (And.right (And.right (by assumption))) | exact rgt (And.right (And.right (by assumption))) | exact rne (And.right (And.right (by assumption))) | exact ren (And.right (And.right (by assumption))) | exact qlt (And.right (And.right (And.right (by assumption)))) | exact qgt (And.right (And.right (And.right (by assumption)))) | exact qne (And.right (And.right (And.right (by assumption)))) | exact qen (And.right (And.right (And.right (by assumption)))) | exact rlt (And.right (And.right (And.right (by assumption)))) | exact rgt (And.right (And.right (And.right (by assumption)))) | exact rne (And.right (And.right (And.right (by assumption)))) | exact ren (And.right (And.right (And.right (by assumption)))) | exact qlt (And.right (And.right (And.right (And.right (by assumption))))) | exact qgt (And.right (And.right (And.right (And.right (by assumption))))) | exact qne (And.right (And.right (And.right (And.right (by assumption))))) | exact qen (And.right (And.right (And.right (And.right (by assumption))))) | exact rlt (And.right (And.right (And.right (And.right (by assumption))))) | exact rgt (And.right (And.right (And.right (And.right (by assumption))))) | exact rne (And.right (And.right (And.right (And.right (by assumption))))) | exact ren (And.right (And.right (And.right (And.right (by assumption))))) | exact qlt (And.right (And.right (And.right (And.right (And.right (by assumption)))))) | exact qgt (And.right (And.right (And.right (And.right (And.right (by assumption)))))) | exact qne (And.right (And.right (And.right (And.right (And.right (by assumption)))))) | exact qen (And.right (And.right (And.right (And.right (And.right (by assumption)))))) | exact rlt (And.right (And.right (And.right (And.right (And.right (by assumption)))))) | exact rgt (And.right (And.right (And.right (And.right (And.right (by assumption)))))) | exact rne (And.right (And.right (And.right (And.right (And.right (by assumption)))))) | exact ren (And.right (And.right (And.right (And.right (And.right (by assumption)))))) | exact qlt (And.right (And.right (And.right (And.right (And.right (And.right (by assumption))))))) | exact qgt (And.right (And.right (And.right (And.right (And.right (And.right (by assumption))))))) | exact qne (And.right (And.right (And.right (And.right (And.right (And.right (by assumption))))))) | exact qen (And.right (And.right (And.right (And.right (And.right (And.right (by assumption))))))) | exact rlt (And.right (And.right (And.right (And.right (And.right (And.right (by assumption))))))) | exact rgt (And.right (And.right (And.right (And.right (And.right (And.right (by assumption))))))) | exact rne (And.right (And.right (And.right (And.right (And.right (And.right (by assumption))))))) | exact ren (And.right (And.right (And.right (And.right (And.right (And.right (by assumption))))))) | exact qlt (And.right (And.right (And.right (And.right (And.right (And.right (And.right (by assumption)))))))) | exact qgt (And.right (And.right (And.right (And.right (And.right (And.right (And.right (by assumption)))))))) | exact qne (And.right (And.right (And.right (And.right (And.right (And.right (And.right (by assumption)))))))) | exact qen (And.right (And.right (And.right (And.right (And.right (And.right (And.right (by assumption)))))))) | exact rlt (And.right (And.right (And.right (And.right (And.right (And.right (And.right (by assumption)))))))) | exact rgt (And.right (And.right (And.right (And.right (And.right (And.right (And.right (by assumption)))))))) | exact rne (And.right (And.right (And.right (And.right (And.right (And.right (And.right (by assumption)))))))) | exact ren (And.right (And.right (And.right (And.right (And.right (And.right (And.right (by assumption)))))))) | exact qlt (And.right (And.right (And.right (And.right (And.right (And.right (And.right (And.right (by assumption))))))))) | exact qgt (And.right (And.right (And.right (And.right (And.right (And.right (And.right (And.right (by assumption))))))))) | exact qne (And.right (And.right (And.right (And.right (And.right (And.right (And.right (And.right (by assumption))))))))) | exact qen (And.right (And.right (And.right (And.right (And.right (And.right (And.right (And.right (by assumption))))))))) | exact rlt (And.right (And.right (And.right (And.right (And.right (And.right (And.right (And.right (by assumption))))))))) | exact rgt (And.right (And.right (And.right (And.right (And.right (And.right (And.right (And.right (by assumption))))))))) | exact rne (And.right (And.right (And.right (And.right (And.right (And.right (And.right (And.right (by assumption))))))))) | exact ren (And.right (And.right (And.right (And.right (And.right (And.right (And.right (And.right (by assumption))))))))) | exact qlt (And.right (And.right (And.right (And.right (And.right (And.right (And.right (And.right (And.right (by assumption)))))))))) | exact qgt (And.right (And.right (And.right (And.right (And.right (And.right (And.right (And.right (And.right (by assumption)))))))))) | exact qne (And.right (And.right (And.right (And.right (And.right (And.right (And.right (And.right (And.right (by assumption)))))))))) | exact qen (And.right (And.right (And.right (And.right (And.right (And.right (And.right (And.right (And.right (by assumption)))))))))) | exact rlt (And.right (And.right (And.right (And.right (And.right (And.right (And.right (And.right (And.right (by assumption)))))))))) | exact rgt (And.right (And.right (And.right (And.right (And.right (And.right (And.right (And.right (And.right (by assumption)))))))))) | exact rne (And.right (And.right (And.right (And.right (And.right (And.right (And.right (And.right (And.right (by assumption)))))))))) | exact ren (And.right (And.right (And.right (And.right (And.right (And.right (And.right (And.right (And.right (by assumption)))))))))) | exact qlt (And.right (And.right (And.right (And.right (And.right (And.right (And.right (And.right (And.right (And.right (by assumption))))))))))) | exact qgt (And.right (And.right (And.right (And.right (And.right (And.right (And.right (And.right (And.right (And.right (by assumption))))))))))) | exact qne (And.right (And.right (And.right (And.right (And.right (And.right (And.right (And.right (And.right (And.right (by assumption))))))))))) | exact qen (And.right (And.right (And.right (And.right (And.right (And.right (And.right (And.right (And.right (And.right (by assumption))))))))))) | exact rlt (And.right (And.right (And.right (And.right (And.right (And.right (And.right (And.right (And.right (And.right (by assumption))))))))))) | exact rgt (And.right (And.right (And.right (And.right (And.right (And.right (And.right (And.right (And.right (And.right (by assumption))))))))))) | exact rne (And.right (And.right (And.right (And.right (And.right (And.right (And.right (And.right (And.right (And.right (by assumption))))))))))) | exact ren (And.right (And.right (And.right (And.right (And.right (And.right (And.right (And.right (And.right (And.right (by assumption))))))))))) | exact qlt (And.right (And.right (And.right (And.right (And.right (And.right (And.right (And.right (And.right (And.right (And.right (by assumption)))))))))))) | exact qgt (And.right (And.right (And.right (And.right (And.right (And.right (And.right (And.right (And.right (And.right (And.right (by assumption)))))))))))) | exact qne (And.right (And.right (And.right (And.right (And.right (And.right (And.right (And.right (And.right (And.right (And.right (by assumption)))))))))))) | exact qen (And.right (And.right (And.right (And.right (And.right (And.right (And.right (And.right (And.right (And.right (And.right (by assumption)))))))))))) | exact rlt (And.right (And.right (And.right (And.right (And.right (And.right (And.right (And.right (And.right (And.right (And.right (by assumption)))))))))))) | exact rgt (And.right (And.right (And.right (And.right (And.right (And.right (And.right (And.right (And.right (And.right (And.right (by assumption)))))))))))) | exact rne (And.right (And.right (And.right (And.right (And.right (And.right (And.right (And.right (And.right (And.right (And.right (by assumption)))))))))))) | exact ren (And.right (And.right (And.right (And.right (And.right (And.right (And.right (And.right (And.right (And.right (And.right (by assumption)))))))))))) | exact qlt (And.right (And.right (And.right (And.right (And.right (And.right (And.right (And.right (And.right (And.right (And.right (And.right (by assumption))))))))))))) | exact qgt (And.right (And.right (And.right (And.right (And.right (And.right (And.right (And.right (And.right (And.right (And.right (And.right (by assumption))))))))))))) | exact qne (And.right (And.right (And.right (And.right (And.right (And.right (And.right (And.right (And.right (And.right (And.right (And.right (by assumption))))))))))))) | exact qen (And.right (And.right (And.right (And.right (And.right (And.right (And.right (And.right (And.right (And.right (And.right (And.right (by assumption))))))))))))) | exact rlt (And.right (And.right (And.right (And.right (And.right (And.right (And.right (And.right (And.right (And.right (And.right (And.right (by assumption))))))))))))) | exact rgt (And.right (And.right (And.right (And.right (And.right (And.right (And.right (And.right (And.right (And.right (And.right (And.right (by assumption))))))))))))) | exact rne (And.right (And.right (And.right (And.right (And.right (And.right (And.right (And.right (And.right (And.right (And.right (And.right (by assumption))))))))))))) | exact ren (And.right (And.right (And.right (And.right (And.right (And.right (And.right (And.right (And.right (And.right (And.right (And.right (by assumption))))))))))))) | exact qlt (And.right (And.right (And.right (And.right (And.right (And.right (And.right (And.right (And.right (And.right (And.right (And.right (And.right (by assumption)))))))))))))) | exact qgt (And.right (And.right (And.right (And.right (And.right (And.right (And.right (And.right (And.right (And.right (And.right (And.right (And.right (by assumption)))))))))))))) | exact qne (And.right (And.right (And.right (And.right (And.right (And.right (And.right (And.right (And.right (And.right (And.right (And.right (And.right (by assumption)))))))))))))) | exact qen (And.right (And.right (And.right (And.right (And.right (And.right (And.right (And.right (And.right (And.right (And.right (And.right (And.right (by assumption)))))))))))))) | exact rlt (And.right (And.right (And.right (And.right (And.right (And.right (And.right (And.right (And.right (And.right (And.right (And.right (And.right (by assumption)))))))))))))) | exact rgt (And.right (And.right (And.right (And.right (And.right (And.right (And.right (And.right (And.right (And.right (And.right (And.right (And.right (by assumption)))))))))))))) | exact rne (And.right (And.right (And.right (And.right (And.right (And.right (And.right (And.right (And.right (And.right (And.right (And.right (And.right (by assumption)))))))))))))) | exact ren (And.right (And.right (And.right (And.right (And.right (And.right (And.right (And.right (And.right (And.right (And.right (And.right (And.right (by assumption)))))))))))))) | exact qlt (And.right (And.right (And.right (And.right (And.right (And.right (And.right (And.right (And.right (And.right (And.right (And.right (And.right (And.right (by assumption))))))))))))))) | exact qgt (And.right (And.right (And.right (And.right (And.right (And.right (And.right (And.right (And.right (And.right (And.right (And.right (And.right (And.right (by assumption))))))))))))))) | exact qne (And.right (And.right (And.right (And.right (And.right (And.right (And.right (And.right (And.right (And.right (And.right (And.right (And.right (And.right (by assumption))))))))))))))) | exact qen (And.right (And.right (And.right (And.right (And.right (And.right (And.right (And.right (And.right (And.right (And.right (And.right (And.right (And.right (by assumption))))))))))))))) | exact rlt (And.right (And.right (And.right (And.right (And.right (And.right (And.right (And.right (And.right (And.right (And.right (And.right (And.right (And.right (by assumption))))))))))))))) | exact rgt (And.right (And.right (And.right (And.right (And.right (And.right (And.right (And.right (And.right (And.right (And.right (And.right (And.right (And.right (by assumption))))))))))))))) | exact rne (And.right (And.right (And.right (And.right (And.right (And.right (And.right (And.right (And.right (And.right (And.right (And.right (And.right (And.right (by assumption))))))))))))))) | exact ren (And.right (And.right (And.right (And.right (And.right (And.right (And.right (And.right (And.right (And.right (And.right (And.right (And.right (And.right (by assumption))))))))))))))) | exact qlt (And.right (And.right (And.right (And.right (And.right (And.right (And.right (And.right (And.right (And.right (And.right (And.right (And.right (And.right (And.right (by assumption)))))))))))))))) | exact qgt (And.right (And.right (And.right (And.right (And.right (And.right (And.right (And.right (And.right (And.right (And.right (And.right (And.right (And.right (And.right (by assumption)))))))))))))))) | exact qne (And.right (And.right (And.right (And.right (And.right (And.right (And.right (And.right (And.right (And.right (And.right (And.right (And.right (And.right (And.right (by assumption)))))))))))))))) | exact qen (And.right (And.right (And.right (And.right (And.right (And.right (And.right (And.right (And.right (And.right (And.right (And.right (And.right (And.right (And.right (by assumption)))))))))))))))) | exact rlt (And.right (And.right (And.right (And.right (And.right (And.right (And.right (And.right (And.right (And.right (And.right (And.right (And.right (And.right (And.right (by assumption)))))))))))))))) | exact rgt (And.right (And.right (And.right (And.right (And.right (And.right (And.right (And.right (And.right (And.right (And.right (And.right (And.right (And.right (And.right (by assumption)))))))))))))))) | exact rne (And.right (And.right (And.right (And.right (And.right (And.right (And.right (And.right (And.right (And.right (And.right (And.right (And.right (And.right (And.right (by assumption)))))))))))))))) | exact ren (And.right (And.right (And.right (And.right (And.right (And.right (And.right (And.right (And.right (And.right (And.right (And.right (And.right (And.right (And.right (by assumption))))))))))))))))))
  trivial
theorem lay10 : True := by
  k_with "mine texts" => ((try dsimp only [← sx0, ← sx1, ← sx2, ← sx3, ← sx4, ← sx5, ← sx6, ← sx7, ← sx8, ← sx9, ← sx10, ← sx11, ← sx12, ← sx13, ← sx14, ← sx15, ← sx16, ← sx17, ← sx18, ← sx19, ← sx20, ← sx21, ← sx22, ← sx23, ← sx24, ← sx25, ← sx26, ← sx27, ← sx28, ← sx29, ← sx30, ← sx31, ← sx32, ← sx33, ← sx34, ← sx35, ← sx36, ← sx37, ← sx38, ← sx39, ← sx40, ← sx41, ← sx42, ← sx43, ← sx44, ← sx45, ← sx46, ← sx47, ← sx48, ← sx49, ← sx50, ← sx51, ← sx52, ← sx53, ← sx54, ← sx55, ← sx56, ← sx57, ← sx58, ← sx59, ← sx60, ← sx61, ← sx62, ← sx63, ← sx64, ← sx65, ← sx66, ← sx67, ← sx68, ← sx69, ← sx70, ← sx71, ← sx72, ← sx73, ← sx74, ← sx75, ← sx76, ← sx77, ← sx78, ← sx79, ← sx80, ← sx81, ← sx82, ← sx83, ← sx84, ← sx85, ← sx86, ← sx87, ← sx88, ← sx89, ← sx90, ← sx91, ← sx92, ← sx93, ← sx94, ← sx95, ← sx96, ← sx97, ← sx98, ← sx99, ← sx100, ← sx101, ← sx102, ← sx103, ← sx104, ← sx105, ← sx106, ← sx107, ← sx108, ← sx109, ← sx110, ← sx111, ← sx112, ← sx113]))
  k_with "mine drop" => (first | (refine' Drop.head ?a; (case a => k_all)) | (refine' Drop.tail ?a ?b; (case a => k_ne); (case b => walk_at "mine drop")))
  k_with "setAttr ref" => ((k_here; k_dflt (first | (refine' exc_set0 ?k1 ?k2 ?k3 ?k4 ?k5 ?k6 ?k7 ?k8 ?k9 ?_; (case k1 => k_asm); (case k2 => k_asm); (case k3 => k_asm); (case k4 => k_mem); (case k5 => k_is); (case k6 => kernel_rfl); (case k7 => k_is); (case k8 => k_is); (case k9 => intro zqd; k_upd); k_whole; intro zqdp zqhp zqFp zqNp zql1; (try k_lt zql1)) | (refine' exc_set_args ?k1 ?k2 ?k3 ?k4 ?k5 ?k6 ?k7 ?k8 ?k9 ?k10 ?_; (case k1 => k_asm); (case k2 => k_asm); (case k3 => k_asm); (case k4 => first | (refine' InstAt.of_exc ?N ?h1 ?h2; (case N => k_asm); (case h1 => k_mem); (case h2 => k_mem)) | (refine' InstAt.of_exc0 ?N ?h1; (case N => k_asm); (case h1 => k_mem))); (case k5 => exact isTup_of (by k_asm) (by k_mem)); (case k6 => k_is); (case k7 => kernel_rfl); (case k8 => k_is); (case k9 => k_is); (case k10 => k_upd); k_whole; intro zqhp zqFp zqNp) | (refine' exc_set ?k1 ?k2 ?k3 ?k4 ?k5 ?k6 ?k7 ?k8 ?k9 ?k10 ?k11 ?k12 ?_; (case k1 => k_asm); (case k2 => k_asm); (case k3 => k_asm); (case k4 => first | (refine' InstAt.of_exc ?N ?h1 ?h2; (case N => k_asm); (case h1 => k_mem); (case h2 => k_mem)) | (refine' InstAt.of_exc0 ?N ?h1; (case N => k_asm); (case h1 => k_mem))); (case k5 => k_is); (case k6 => kernel_rfl); (case k7 => k_is); (case k8 => k_is); (case k9 => k_get); (case k10 => k_put); (case k11 => k_upd); (case k12 => exact Nat.le_of_ble_eq_true rfl); k_whole; intro zqhp zqFp zqNp))))
  k_with "call builtin:Exception.__init__" => ((k_here; k_dflt (refine' exc_init_call ?k1 ?k2 ?k3 ?k4 ?k5 ?k6 ?_; (case k1 => k_asm); (case k2 => k_asm); (case k3 => k_asm); (case k4 => first | (refine' InstAt.of_exc ?N ?h1 ?h2; (case N => k_asm); (case h1 => k_mem); (case h2 => k_mem)) | (refine' InstAt.of_exc0 ?N ?h1; (case N => k_asm); (case h1 => k_mem))); (case k5 => k_is); (case k6 => intro zqt; k_upd); k_whole; intro zqtp zqhp zqFp zqNp zql1; (try k_lt zql1))))
  k_with "call builtin:repr" => ((k_here; k_dflt (refine' repr_use ?k1 ?k2 ?k3 ?k4 ?k5 ?k6 ?k7 ?_; (case k1 => assumption); (case k2 => k_asm); (case k3 => k_asm); (case k4 => exact rfl); (case k5 => exact rfl); (case k6 => exact Nat.le_of_ble_eq_true rfl); (case k7 => exact Nat.le_of_ble_eq_true rfl); k_whole; intro zqhp zqup zqtkp zqFp zqNp)))
  k_with "BackIn" => ((k_dflt (refine' back_ ?k1 ?k2 ?k3 ?_; (case k1 => k_asm); (case k2 => k_asm); (case k3 => walk_at "mine drop"); k_whole; intro zqFp zqNp; (try dsimp only))))
  k_with "call ref" => ((k_here; k_dflt (refine wpAny_call ?_; refine' enter_in ?k1 ?k2 ?k3 ?k4 ?k5 ?k6 ?k7 ?k8 ?kB ?c2 ?c3 ?c4 ?c5 ?_; (case k1 => k_asm); (case k2 => k_asm); (case k3 => k_asm); (case k4 => exact Top.nolimit (by assumption)); (case k5 => k_is); (case k6 => k_is); (case k7 => exact Nat.le_of_ble_eq_true rfl); (case k8 => first | ((with_reducible show BindsTo _ _ ⟨[_], []⟩ _); first | exact BindsTo.of_eq (binds := [(_, _)]) rfl | exact binds_K (binds := [(_, _)]) (by k_in) rfl (by k_is) rfl rfl rfl) | ((with_reducible show BindsTo _ _ ⟨[_, _], []⟩ _); first | exact BindsTo.of_eq (binds := [(_, _), (_, _)]) rfl | exact binds_K (binds := [(_, _), (_, _)]) (by k_in) rfl (by k_is) rfl rfl rfl) | ((with_reducible show BindsTo _ _ ⟨[_, _, _], []⟩ _); first | exact BindsTo.of_eq (binds := [(_, _), (_, _), (_, _)]) rfl | exact binds_K (binds := [(_, _), (_, _), (_, _)]) (by k_in) rfl (by k_is) rfl rfl rfl) | ((with_reducible show BindsTo _ _ ⟨[_, _, _, _], []⟩ _); first | exact BindsTo.of_eq (binds := [(_, _), (_, _), (_, _), (_, _)]) rfl | exact binds_K (binds := [(_, _), (_, _), (_, _), (_, _)]) (by k_in) rfl (by k_is) rfl rfl rfl) | ((with_reducible show BindsTo _ _ ⟨[_, _, _, _, _], []⟩ _); first | exact BindsTo.of_eq (binds := [(_, _), (_, _), (_, _), (_, _), (_, _)]) rfl | exact binds_K (binds := [(_, _), (_, _), (_, _), (_, _), (_, _)]) (by k_in) rfl (by k_is) rfl rfl rfl)); (case c5 => decide); (case kB => exact locs rfl); (case c2 => exact rfl); (case c3 => exact rfl); (case c4 => exact rfl); k_whole; intro zqoLp zqLp zqhp zqtkp zqFp zqNp zql1 zqn1; (try k_lt zql1); (try (replace zqn1 := allNe_of zqn1; simp only [AllNe, and_true] at zqn1)); (try dsimp only); walk_at "mine texts")))
  k_with "call builtin:str.join" => ((k_here; (with_reducible show wpAny _ _ (call (Value.builtin "str.join") [Value.str _ _, Value.ref _]) _ _ _); k_dflt (refine join_listC (by is_list) (by repeat constructor) (by decide) (by (simp only [List.map_cons, List.map_nil, List.sum_cons, List.sum_nil, List.length_cons, List.length_nil]; omega)) ?_); intro zqtp zqkp))
  k_with "getMethod type:Exception" => ((k_here; refine' method_type ?F ?X ?m (by decide +kernel) ?e ?h ?_; (case F => k_asm); (case X => k_asm); (case m => exact meta_Exception); (case e => k_dflt k_is); (case h => k_handed)))
  k_with "compareOp IsNot" => ((k_here; k_dflt (refine isNot_none (by assumption) ?_)))
  k_with "call builtin:str.format" => ((k_here; k_dflt (refine' line_use ?k1 ?k2 ?k3 ?k4 ?k5 ?k6 ?k7 ?_; (case k1 => assumption); (case k2 => k_asm); (case k3 => k_asm); (case k4 => exact rfl); (case k5 => exact rfl); (case k6 => exact Nat.le_of_ble_eq_true rfl); (case k7 => exact Nat.le_of_ble_eq_true rfl); k_whole; intro zqhp zqup zqtkp zqFp zqNp)))
  k_with "call builtin:str.format" => ((k_here; (with_reducible show wpAny _ _ (call (Value.builtin "str.format") [Value.str _ _, _, _, _, _]) _ _ _); k_dflt (refine' fmt_use ?k1 ?k2 ?k3 ?k4 ?k5 ?_; (case k1 => k_asm); (case k2 => k_asm); (case k3 => exact ⟨rfl, rfl, Nat.le_of_ble_eq_true rfl, Nat.le_of_ble_eq_true rfl⟩); (case k4 => exact args_5 _ _ _ _ _); (case k5 => walk_at "mine fmt")); k_whole; intro zqhp zqup zqtkp zqFp zqNp))
  k_with "pyReprObj" => ((k_here; k_dflt (refine' reprObj_use ?k1 ?k2 ?k3 ?k4 ?k5 ?k6 ?k7 ?_; (case k1 => assumption); (case k2 => k_asm); (case k3 => k_asm); (case k4 => exact rfl); (case k5 => exact rfl); (case k6 => exact Nat.le_of_ble_eq_true rfl); (case k7 => exact Nat.le_of_ble_eq_true rfl); k_whole; intro zqhp zqup zqtkp zqFp zqNp)))
  trivial
/-- what is known of a name that an error bears -/
structure Nm (w : World) (h : Heap) (v : Value) (t : Str) : Prop where
  wr : WrOk 600 2000 w h v t
  rep : Rep PySem.Challenge.rw_dm0028_09.prog w h v t
  len : t.length ≤ 50
  ne : v ≠ .none
  hd : handedIn v = true
def due09 (kind : Int) (ta tb : Str) (line : Int) : Str :=
  if kind = 0 then Str.ofString "No section: " ++ ta
  else if kind = 1 then Str.ofString "No option " ++ tb ++ Str.ofString " in section: " ++ ta
  else if kind = 2 then Str.ofString "Section " ++ (ta ++ Str.ofString " already exists")
  else if kind = 3 then Str.ofString "While reading from " ++ tb ++ Str.ofString " [line " ++ Str.ofString (toString line) ++ Str.ofString "]: section " ++ (ta ++ Str.ofString " already exists")
  else if kind = 4 then Str.ofString "Option " ++ tb ++ Str.ofString " in section " ++ (ta ++ Str.ofString " already exists")
  else if kind = 5 then Str.ofString "Bad value substitution: " ++ (Str.ofString "option " ++ tb ++ Str.ofString " in section " ++ ta ++ Str.ofString " contains an interpolation key ") ++ Str.ofString "'r' which is not a valid option name. Raw value: 'v'"
  else Str.ofString "Recursion limit exceeded in value substitution: " ++ (Str.ofString "option " ++ tb ++ Str.ofString " in section " ++ ta ++ Str.ofString " contains an interpolation key ") ++ Str.ofString "which cannot be substituted in 10 steps. Raw value: 'v'"
theorem no_k {P : Int → Prop} {C : Prop} {k j : Int} (hk : k = j) (h : P k) (hn : ¬ P j) : C := (hn (hk ▸ h)).elim
theorem sl_app {a b : Str} {m n : Nat} (ha : a.length ≤ m) (hb : b.length ≤ n) : (a ++ b).length ≤ m + n := by rw [PySem.Str.length_append]; exact Nat.add_le_add ha hb
theorem due_len {k : Int} {ta tb : Str} {line : Int} (la : ta.length ≤ 50) (lb : tb.length ≤ 50) (h0 : 10 ≤ line) (h1 : line ≤ 99) (_ : (0 : Int) ≤ 0) (_ : (0 : Int) ≤ 0) : (due09 k ta tb line).length ≤ 1000 := by
  have x0 : (Str.ofString "No section: ").length ≤ 60 := by decide +kernel
  have x1 : (Str.ofString "No option ").length ≤ 60 := by decide +kernel
  have x2 : (Str.ofString " in section: ").length ≤ 60 := by decide +kernel
  have x3 : (Str.ofString "Section ").length ≤ 60 := by decide +kernel
  have x4 : (Str.ofString " already exists").length ≤ 60 := by decide +kernel
  have x5 : (Str.ofString "While reading from ").length ≤ 60 := by decide +kernel
  have x6 : (Str.ofString " [line ").length ≤ 60 := by decide +kernel
  have x7 : (Str.ofString "]: section ").length ≤ 60 := by decide +kernel
  have x8 : (Str.ofString "Option ").length ≤ 60 := by decide +kernel
  have x9 : (Str.ofString " in section ").length ≤ 60 := by decide +kernel
  have x10 : (Str.ofString "Bad value substitution: ").length ≤ 60 := by decide +kernel
  have x11 : (Str.ofString "option ").length ≤ 60 := by decide +kernel
  have x12 : (Str.ofString " contains an interpolation key ").length ≤ 60 := by decide +kernel
  have x13 : (Str.ofString "'r' which is not a valid option name. Raw value: 'v'").length ≤ 60 := by decide +kernel
  have x14 : (Str.ofString "Recursion limit exceeded in value substitution: ").length ≤ 60 := by decide +kernel
  have x15 : (Str.ofString "which cannot be substituted in 10 steps. Raw value: 'v'").length ≤ 60 := by decide +kernel
  have xt : (Str.ofString (toString line)).length ≤ 10 := toString_length_le (k := 10) (by omega) (by decide) (by omega)
  unfold due09
  repeat' split
  all_goals (refine' Nat.le_trans ?zb ?zc; (case zb => (with_reducible (repeat (first | assumption | apply sl_app)))); (case zc => exact Nat.le_of_ble_eq_true rfl))
def argsAre (kind : Int) (a b : Value) (line : Int) (xs : List Value) : Prop :=
  (kind = 0 ∧ xs = [a]) ∨ (kind = 1 ∧ xs = [b, a]) ∨ (kind = 2 ∧ ∃ t, xs = [a, .none, .int line t]) ∨ (kind = 3 ∧ ∃ t, xs = [a, b, .int line t]) ∨ (kind = 4 ∧ xs = [a, b, .none, .none]) ∨
  (kind = 5 ∧ ∃ t t', xs = [b, a, .str (Str.ofString "v") t, .str (Str.ofString "r") t']) ∨ (kind = 6 ∧ ∃ t, xs = [b, a, .str (Str.ofString "v") t])
def fieldsAre (kind : Int) (a b : Value) (line : Int) (fs : List (Str × Value)) : Prop :=
  (Str.ofString "section", a) ∈ fs ∧ (kind = 3 → (Str.ofString "source", b) ∈ fs) ∧ (kind = 2 ∨ kind = 3 → ∃ t, (Str.ofString "lineno", .int line t) ∈ fs) ∧ (kind = 1 ∨ kind = 4 ∨ kind = 5 ∨ kind = 6 → (Str.ofString "option", b) ∈ fs) ∧ (kind = 5 → ∃ t, (Str.ofString "reference", .str (Str.ofString "r") t) ∈ fs)
structure MadeC (w : World) (h h' : Heap) (kind : Int) (a b : Value) (line : Int) (due : Str) (l e d tA t2 C : Addr) (od : Obj) (fs : List (Str × Value)) (xs ys : List Value) (u um : Tok) (n : Nat) : Prop where
  hl : h'.get? l = some (listOf #[.ref e, .str due u, .ref t2] n)
  h2 : h'.get? t2 = some (tupObj ys)
  he : h'.get? e = some (excObj C (some d) tA)
  hd : h'.get? d = some od
  ht : h'.get? tA = some (tupObj xs)
  nl : h.get? l = none
  n2 : h.get? t2 = none
  ne : h.get? e = none
  nd : h.get? d = none
  nt : h.get? tA = none
  hm : lookIn (Str.ofString "message") od = some (some (.str due um))
  hf : Fields od fs
  hC : clsB (hz.heap_188 w.params) C 36 = true
  hM : nameB (hz.heap_188 w.params) C (Str.ofString "message") = true
  hn : ∀ p ∈ fs, nameB (hz.heap_188 w.params) C p.1 = true ∧ handedIn p.2 = true
  hlen : due.length ≤ 1000
  hfa : fieldsAre kind a b line fs
  hx : argsAre kind a b line xs
  hy : argsAre kind a b line ys
theorem mk09 {w : World} {h₀ h : Heap} {L : Addr} {news : List (Addr × Obj)} {kind : Int} {a b : Value} {line : Int} {due msg : Str} {l e d tA t2 C : Addr} {od : Obj} {fs : List (Str × Value)} {xs ys : List Value} {u um : Tok} {n : Nat}
    {due0 : Str} (hdd : due0 = due) (N : News h₀ L h news) (hl : (l, listOf #[.ref e, .str due u, .ref t2] n) ∈ news) (h2 : (t2, ({ cls := .type "tuple", data := .seq ys.toArray } : Obj)) ∈ news) (he : (e, excObj C (some d) tA) ∈ news) (hd : (d, od) ∈ news) (ht : (tA, tupObj xs) ∈ news)
    (hm : lookIn (Str.ofString "message") od = some (some (.str msg um))) (hmd : msg = due) (hf : Fields od fs) (hC : clsB (hz.heap_188 w.params) C 36 = true) (hM : nameB (hz.heap_188 w.params) C (Str.ofString "message") = true) (hn : ∀ p ∈ fs, nameB (hz.heap_188 w.params) C p.1 = true ∧ handedIn p.2 = true)
    (hlen : due.length ≤ 1000) (hx : argsAre kind a b line xs) (hy : argsAre kind a b line ys) (hfa : fieldsAre kind a b line fs) : MadeC w h₀ h kind a b line due0 l e d tA t2 C od fs xs ys u um n := by
  subst hdd
  subst hmd
  exact ⟨(N _ hl).1, (N _ h2).1, (N _ he).1, (N _ hd).1, (N _ ht).1, (N _ hl).2.2, (N _ h2).2.2, (N _ he).2.2, (N _ hd).2.2, (N _ ht).2.2, hm, hf, hC, hM, hn, hlen, hfa, hx, hy⟩
local macro_rules | `(tactic| k_inst) => `(tactic| (refine' inst_grow ?zI ?zg; (case zI => assumption); (case zg => exact Fr.keep (by k_asm))))
local macro_rules | `(tactic| kit_at) => `(tactic| first | exact kitAt_tup (by assumption) (Fr.keep (by k_asm)) | exact kitAt_list (by assumption) (Fr.keep (by k_asm)))
theorem lay11 : True := by
  k_with "eval ListComp" => ((k_here; (with_reducible rename IsTup _ _ _ => zT); k_dflt (refine ListComp_tup (F₀ := by k_asm) (by rfl) (by decide) (by rfl) (by decide) (by rfl) ?_)))
  k_with "SrcT" => ((k_here; k_dflt (refine srcT_base (by rfl) (by k_asm) (by k_asm) (by assumption) (by first | size_fits | exact Nat.le_of_ble_eq_true rfl) ?_; intro zqgp; lcg_lit)))
  k_with "call ref" => ((k_here; (with_reducible rename WrOk _ _ _ _ _ _ => zc); (with_reducible show wpAny _ _ (call (Value.ref 210) [_]) _ _ _); k_dflt (refine' text_use2 (c := by assumption) ?k1 ?k2 ?k3 ?k4 ?k5 ?k6 ?k7 ?_; (case k1 => k_asm); (case k2 => k_asm); (case k3 => k_asm); (case k4 => exact rfl); (case k5 => exact rfl); (case k6 => exact Nat.le_of_ble_eq_true rfl); (case k7 => exact Nat.le_of_ble_eq_true rfl); k_whole; intro zqhp zqtkp zqup zqFp zqNp)))
  k_with "call ref" => ((k_here; (with_reducible show wpAny _ _ (call (Value.ref 59) [_]) _ _ _); k_dflt (refine' err_use (fun Q E hQ => conNS _ _ _ _ (Rep.mono (by assumption) (Fr.keep (by k_asm))) Q E (by k_in) (Top.keeps (by assumption) (Fr.keep (by k_asm))) hQ) ?k1 ?k2 ?k3 ?k4 ?k5 ?k6 ?_; (case k1 => k_asm); (case k2 => k_asm); (case k3 => exact rfl); (case k4 => exact rfl); (case k5 => exact Nat.le_of_ble_eq_true rfl); (case k6 => exact Nat.le_of_ble_eq_true rfl); k_whole; intro zqhp zqtkp zqep zqdp zqtap zqodp zqup zqFp zqNp zqn1 zqn2 zqn3 zqhm zqhf; (try simp only [AllNe, and_true] at zqn1 zqn2 zqn3))))
  k_with "call ref" => ((k_here; (with_reducible show wpAny _ _ (call (Value.ref 118) [_, _]) _ _ _); k_dflt (refine' err_use (fun Q E hQ => conNO _ _ _ _ _ (Rep.mono (by assumption) (Fr.keep (by k_asm))) _ (Rep.mono (by assumption) (Fr.keep (by k_asm))) Q E (by k_in) (Top.keeps (by assumption) (Fr.keep (by k_asm))) hQ) ?k1 ?k2 ?k3 ?k4 ?k5 ?k6 ?_; (case k1 => k_asm); (case k2 => k_asm); (case k3 => exact rfl); (case k4 => exact rfl); (case k5 => exact Nat.le_of_ble_eq_true rfl); (case k6 => exact Nat.le_of_ble_eq_true rfl); k_whole; intro zqhp zqtkp zqep zqdp zqtap zqodp zqup zqFp zqNp zqn1 zqn2 zqn3 zqhm zqhf; (try simp only [AllNe, and_true] at zqn1 zqn2 zqn3))))
  k_with "call ref" => ((k_here; (with_reducible show wpAny _ _ (call (Value.ref 79) [_] _) _ _ _); k_dflt (refine' err_use (fun Q E hQ => conDSk _ _ _ _ _ (Rep.mono (by assumption) (Fr.keep (by k_asm))) Q E (by k_in) (Top.keeps (by assumption) (Fr.keep (by k_asm))) hQ) ?k1 ?k2 ?k3 ?k4 ?k5 ?k6 ?_; (case k1 => k_asm); (case k2 => k_asm); (case k3 => exact rfl); (case k4 => exact rfl); (case k5 => exact Nat.le_of_ble_eq_true rfl); (case k6 => exact Nat.le_of_ble_eq_true rfl); k_whole; intro zqhp zqtkp zqep zqdp zqtap zqodp zqup zqFp zqNp zqn1 zqn2 zqn3 zqhm zqhf; (try simp only [AllNe, and_true] at zqn1 zqn2 zqn3))))
  k_with "call ref" => ((k_here; (with_reducible show wpAny _ _ (call (Value.ref 79) [_, _, Value.int _ _]) _ _ _); k_dflt (refine' err_use (fun Q E hQ => conDSb _ _ _ _ (by assumption) _ _ _ (by assumption) _ (Rep.mono (by assumption) (Fr.keep (by k_asm))) _ (Rep.mono (by assumption) (Fr.keep (by k_asm))) Q E (by k_in) (Top.keeps (by assumption) (Fr.keep (by k_asm))) hQ) ?k1 ?k2 ?k3 ?k4 ?k5 ?k6 ?_; (case k1 => k_asm); (case k2 => k_asm); (case k3 => exact rfl); (case k4 => exact rfl); (case k5 => exact Nat.le_of_ble_eq_true rfl); (case k6 => exact Nat.le_of_ble_eq_true rfl); k_whole; intro zqhp zqtkp zqep zqdp zqtap zqodp zqup zqFp zqNp zqn1 zqn2 zqn3 zqhm zqhf; (try simp only [AllNe, and_true] at zqn1 zqn2 zqn3))))
  k_with "call ref" => ((k_here; (with_reducible show wpAny _ _ (call (Value.ref 99) [_, _]) _ _ _); k_dflt (refine' err_use (fun Q E hQ => conDOn _ _ _ _ _ (Rep.mono (by assumption) (Fr.keep (by k_asm))) _ (Rep.mono (by assumption) (Fr.keep (by k_asm))) Q E (by k_in) (Top.keeps (by assumption) (Fr.keep (by k_asm))) hQ) ?k1 ?k2 ?k3 ?k4 ?k5 ?k6 ?_; (case k1 => k_asm); (case k2 => k_asm); (case k3 => exact rfl); (case k4 => exact rfl); (case k5 => exact Nat.le_of_ble_eq_true rfl); (case k6 => exact Nat.le_of_ble_eq_true rfl); k_whole; intro zqhp zqtkp zqep zqdp zqtap zqodp zqup zqFp zqNp zqn1 zqn2 zqn3 zqhm zqhf; (try simp only [AllNe, and_true] at zqn1 zqn2 zqn3))))
  k_with "call ref" => ((k_here; (with_reducible show wpAny _ _ (call (Value.ref 156) [_, _, Value.str _ _, Value.str _ _]) _ _ _); k_dflt (refine' err_use (fun Q E hQ => conIM _ _ _ _ _ _ _ (Rep.mono (by assumption) (Fr.keep (by k_asm))) _ (Rep.mono (by assumption) (Fr.keep (by k_asm))) _ (rep_str (by decide +kernel)) _ (rep_str (by decide +kernel)) Q E (by k_in) (Top.keeps (by assumption) (Fr.keep (by k_asm))) hQ) ?k1 ?k2 ?k3 ?k4 ?k5 ?k6 ?_; (case k1 => k_asm); (case k2 => k_asm); (case k3 => exact rfl); (case k4 => exact rfl); (case k5 => exact Nat.le_of_ble_eq_true rfl); (case k6 => exact Nat.le_of_ble_eq_true rfl); k_whole; intro zqhp zqtkp zqep zqdp zqtap zqodp zqup zqFp zqNp zqn1 zqn2 zqn3 zqhm zqhf; (try simp only [AllNe, and_true] at zqn1 zqn2 zqn3))))
  k_with "call ref" => ((k_here; (with_reducible show wpAny _ _ (call (Value.ref 175) [_, _, Value.str _ _]) _ _ _); k_dflt (refine' err_use (fun Q E hQ => conID _ _ _ _ _ _ (Rep.mono (by assumption) (Fr.keep (by k_asm))) _ (Rep.mono (by assumption) (Fr.keep (by k_asm))) _ (rep_str (by decide +kernel)) Q E (by k_in) (Top.keeps (by assumption) (Fr.keep (by k_asm))) hQ) ?k1 ?k2 ?k3 ?k4 ?k5 ?k6 ?_; (case k1 => k_asm); (case k2 => k_asm); (case k3 => exact rfl); (case k4 => exact rfl); (case k5 => exact Nat.le_of_ble_eq_true rfl); (case k6 => exact Nat.le_of_ble_eq_true rfl); k_whole; intro zqhp zqtkp zqep zqdp zqtap zqodp zqup zqFp zqNp zqn1 zqn2 zqn3 zqhm zqhf; (try simp only [AllNe, and_true] at zqn1 zqn2 zqn3))))
  trivial
theorem made09 : ∀ {p : Program} {loose : List Str} {mean : ExcName → Option Value} {mg mb : Str → Option Value} (w : World) (s : Shared) (kind : Int) (tk0 : Tok) (hk0 : 0 ≤ kind) (hk6 : kind < 7) (a b : Value) (ta tb : Str) (Na : Nm w s.heap a ta) (Nb : Nm w s.heap b tb) (line : Int) (lt : Tok) (hl0 : 10 ≤ line) (hl1 : line ≤ 99) (RL : Lines PySem.Challenge.rw_dm0028_09.prog w line (lineText line))
    (Q E : Value → Shared → Prop) (KX : (hz.heap_188 w.params).In s.heap) (T : Top p loose mean mg mb s.heap)
    (hQ : ∀ h' tk (l e d tA t2 C : Addr) (od : Obj) (fs : List (Str × Value)) (xs ys : List Value) (u um : Tok) (n : Nat), Grow s.heap h' → MadeC w s.heap h' kind a b line (due09 kind ta tb line) l e d tA t2 C od fs xs ys u um n → Q (.ref l) { s with heap := h', toks := tk }),
    wpAny (model PySem.Challenge.rw_dm0028_09.prog w) (AD 500 1500) (call (.ref 217) [.int kind tk0, a, b, .int line lt]) Q E s := by
  w_top off
  k_fill
  intro p loose mean mg mb w s kind tk0 hk0 hk6 a b ta tb Na Nb line lt hl0 hl1 RL Q E KX T hQ
  obtain ⟨hh, g, dr, tk, os⟩ := s
  dsimp only at KX T Na Nb hQ
  w_strict (
  refine wpAny_call ?_
  k_dflt (refine' enter_new (h₀ := hh) (binds := [("kind", .int kind tk0), ("a", a), ("b", b), ("line", .int line lt)]) (news := []) ?k1 ?k2 KX T.nolimit ?k9 ?k5 ?k6 ?k7 ?k8 ?kB ?c2 ?c3 ?c4 ?c5 ?_; (case k5 => k_is); (case k6 => k_is); (case k7 => exact Nat.le_of_ble_eq_true rfl); (case k8 => first | exact BindsTo.of_eq rfl | exact binds_K KX rfl (by k_is) rfl rfl rfl); (case c5 => decide); (case kB => exact locs rfl); (case c2 => exact rfl); (case c3 => exact rfl); (case c4 => exact rfl); (case k1 => exact fun _ _ e => e); (case k2 => exact Nat.le_refl _); (case k9 => exact List.forall_mem_nil _))
  intro L' h' tk' F' N' l1
  walk_at "mine texts"
  have la := Na.len
  have lb := Nb.len
  have wa := Na.wr
  have wb := Nb.wr
  have ra := Na.rep
  have rb := Nb.rep
  have hnb := Nb.ne
  have hda := Na.hd
  have hdb := Nb.hd
  k_steps
  · (with_reducible rename Fr _ _ _ _ => Fz)
    (with_reducible rename News _ _ _ _ => Nz)
    (with_reducible rename Fields _ _ => hfz)
    (with_reducible rename lookIn _ _ = _ => hmz)
    have hkz : kind = 0 := by first | assumption | omega
    have hd0 : due09 kind ta tb line = due09 0 ta tb line := by rw [hkz]
    refine hQ _ _ _ _ _ _ _ _ _ _ _ _ _ _ _ Fz.keep (mk09 (C := 59) hd0 Nz (by k_mem) (by k_mem) (by k_mem) (by k_mem) (by k_mem) hmz ?_ hfz (by kernel_rfl) (by kernel_rfl) ?_ ?_ ?_ ?_ ?_)
    · rfl
    · intro q hq
      simp only [List.mem_cons, List.not_mem_nil, or_false] at hq
      rcases hq with rfl <;> exact ⟨by kernel_rfl, by first | rfl | assumption⟩
    · exact due_len Na.len Nb.len hl0 hl1 (by decide) (by decide)
    · exact .inl ⟨hkz, rfl⟩
    · exact .inl ⟨hkz, rfl⟩
    · exact ⟨.head _, fun h => by rw [hkz] at h; exact absurd h (by decide), fun h => by rw [hkz] at h; exact absurd h (by decide), fun h => by rw [hkz] at h; exact absurd h (by decide), fun h => by rw [hkz] at h; exact absurd h (by decide)⟩
  · (with_reducible rename Fr _ _ _ _ => Fz)
    (with_reducible rename News _ _ _ _ => Nz)
    (with_reducible rename Fields _ _ => hfz)
    (with_reducible rename lookIn _ _ = _ => hmz)
    have hkz : kind = 1 := by first | assumption | omega
    have hd0 : due09 kind ta tb line = due09 1 ta tb line := by rw [hkz]
    refine hQ _ _ _ _ _ _ _ _ _ _ _ _ _ _ _ Fz.keep (mk09 (C := 118) hd0 Nz (by k_mem) (by k_mem) (by k_mem) (by k_mem) (by k_mem) hmz ?_ hfz (by kernel_rfl) (by kernel_rfl) ?_ ?_ ?_ ?_ ?_)
    · rfl
    · intro q hq
      simp only [List.mem_cons, List.not_mem_nil, or_false] at hq
      rcases hq with rfl | rfl <;> exact ⟨by kernel_rfl, by first | rfl | assumption⟩
    · exact due_len Na.len Nb.len hl0 hl1 (by decide) (by decide)
    · exact .inr (.inl ⟨hkz, rfl⟩)
    · exact .inr (.inl ⟨hkz, rfl⟩)
    · exact ⟨.tail _ (.head _), fun h => by rw [hkz] at h; exact absurd h (by decide), fun h => by rw [hkz] at h; exact absurd h (by decide), fun _ => .head _, fun h => by rw [hkz] at h; exact absurd h (by decide)⟩
  · (with_reducible rename Fr _ _ _ _ => Fz)
    (with_reducible rename News _ _ _ _ => Nz)
    (with_reducible rename Fields _ _ => hfz)
    (with_reducible rename lookIn _ _ = _ => hmz)
    have hkz : kind = 2 := by first | assumption | omega
    have hd0 : due09 kind ta tb line = due09 2 ta tb line := by rw [hkz]
    refine hQ _ _ _ _ _ _ _ _ _ _ _ _ _ _ _ Fz.keep (mk09 (C := 79) hd0 Nz (by k_mem) (by k_mem) (by k_mem) (by k_mem) (by k_mem) hmz ?_ hfz (by kernel_rfl) (by kernel_rfl) ?_ ?_ ?_ ?_ ?_)
    · exact tx60a _
    · intro q hq
      simp only [List.mem_cons, List.not_mem_nil, or_false] at hq
      rcases hq with rfl | rfl | rfl <;> exact ⟨by kernel_rfl, by first | rfl | assumption⟩
    · exact due_len Na.len Nb.len hl0 hl1 (by decide) (by decide)
    · exact .inr (.inr (.inl ⟨hkz, _, rfl⟩))
    · exact .inr (.inr (.inl ⟨hkz, _, rfl⟩))
    · exact ⟨.head _, fun h => by rw [hkz] at h; exact absurd h (by decide), fun _ => ⟨_, .tail _ (.tail _ (.head _))⟩, fun h => by rw [hkz] at h; exact absurd h (by decide), fun h => by rw [hkz] at h; exact absurd h (by decide)⟩
  · (with_reducible rename Fr _ _ _ _ => Fz)
    (with_reducible rename News _ _ _ _ => Nz)
    (with_reducible rename Fields _ _ => hfz)
    (with_reducible rename lookIn _ _ = _ => hmz)
    have hkz : kind = 3 := by first | assumption | omega
    have hd0 : due09 kind ta tb line = due09 3 ta tb line := by rw [hkz]
    refine hQ _ _ _ _ _ _ _ _ _ _ _ _ _ _ _ Fz.keep (mk09 (C := 79) hd0 Nz (by k_mem) (by k_mem) (by k_mem) (by k_mem) (by k_mem) hmz ?_ hfz (by kernel_rfl) (by kernel_rfl) ?_ ?_ ?_ ?_ ?_)
    · exact tx9c (by omega) (by omega)
    · intro q hq
      simp only [List.mem_cons, List.not_mem_nil, or_false] at hq
      rcases hq with rfl | rfl | rfl <;> exact ⟨by kernel_rfl, by first | rfl | assumption⟩
    · exact due_len Na.len Nb.len hl0 hl1 (by decide) (by decide)
    · exact .inr (.inr (.inr (.inl ⟨hkz, _, rfl⟩)))
    · exact .inr (.inr (.inr (.inl ⟨hkz, _, rfl⟩)))
    · exact ⟨.head _, fun _ => .tail _ (.head _), fun _ => ⟨_, .tail _ (.tail _ (.head _))⟩, fun h => by rw [hkz] at h; exact absurd h (by decide), fun h => by rw [hkz] at h; exact absurd h (by decide)⟩
  · (with_reducible rename Fr _ _ _ _ => Fz)
    (with_reducible rename News _ _ _ _ => Nz)
    (with_reducible rename Fields _ _ => hfz)
    (with_reducible rename lookIn _ _ = _ => hmz)
    have hkz : kind = 4 := by first | assumption | omega
    have hd0 : due09 kind ta tb line = due09 4 ta tb line := by rw [hkz]
    refine hQ _ _ _ _ _ _ _ _ _ _ _ _ _ _ _ Fz.keep (mk09 (C := 99) hd0 Nz (by k_mem) (by k_mem) (by k_mem) (by k_mem) (by k_mem) hmz ?_ hfz (by kernel_rfl) (by kernel_rfl) ?_ ?_ ?_ ?_ ?_)
    · exact tx9d
    · intro q hq
      simp only [List.mem_cons, List.not_mem_nil, or_false] at hq
      rcases hq with rfl | rfl | rfl | rfl <;> exact ⟨by kernel_rfl, by first | rfl | assumption⟩
    · exact due_len Na.len Nb.len hl0 hl1 (by decide) (by decide)
    · exact .inr (.inr (.inr (.inr (.inl ⟨hkz, rfl⟩))))
    · exact .inr (.inr (.inr (.inr (.inl ⟨hkz, rfl⟩))))
    · exact ⟨.head _, fun h => by rw [hkz] at h; exact absurd h (by decide), fun h => by rw [hkz] at h; exact absurd h (by decide), fun _ => .tail _ (.head _), fun h => by rw [hkz] at h; exact absurd h (by decide)⟩
  · (with_reducible rename Fr _ _ _ _ => Fz)
    (with_reducible rename News _ _ _ _ => Nz)
    (with_reducible rename Fields _ _ => hfz)
    (with_reducible rename lookIn _ _ = _ => hmz)
    have hkz : kind = 5 := by first | assumption | omega
    have hd0 : due09 kind ta tb line = due09 5 ta tb line := by rw [hkz]
    refine hQ _ _ _ _ _ _ _ _ _ _ _ _ _ _ _ Fz.keep (mk09 (C := 156) hd0 Nz (by k_mem) (by k_mem) (by k_mem) (by k_mem) (by k_mem) hmz ?_ hfz (by kernel_rfl) (by kernel_rfl) ?_ ?_ ?_ ?_ ?_)
    · exact tx9e
    · intro q hq
      simp only [List.mem_cons, List.not_mem_nil, or_false] at hq
      rcases hq with rfl | rfl | rfl <;> exact ⟨by kernel_rfl, by first | rfl | assumption⟩
    · exact due_len Na.len Nb.len hl0 hl1 (by decide) (by decide)
    · exact .inr (.inr (.inr (.inr (.inr (.inl ⟨hkz, _, _, rfl⟩)))))
    · exact .inr (.inr (.inr (.inr (.inr (.inl ⟨hkz, _, _, rfl⟩)))))
    · exact ⟨.tail _ (.head _), fun h => by rw [hkz] at h; exact absurd h (by decide), fun h => by rw [hkz] at h; exact absurd h (by decide), fun _ => .head _, fun _ => ⟨_, .tail _ (.tail _ (.head _))⟩⟩
  · (with_reducible rename Fr _ _ _ _ => Fz)
    (with_reducible rename News _ _ _ _ => Nz)
    (with_reducible rename Fields _ _ => hfz)
    (with_reducible rename lookIn _ _ = _ => hmz)
    have hkz : kind = 6 := by first | assumption | omega
    have hd0 : due09 kind ta tb line = due09 6 ta tb line := by rw [hkz]
    refine hQ _ _ _ _ _ _ _ _ _ _ _ _ _ _ _ Fz.keep (mk09 (C := 175) hd0 Nz (by k_mem) (by k_mem) (by k_mem) (by k_mem) (by k_mem) hmz ?_ hfz (by kernel_rfl) (by kernel_rfl) ?_ ?_ ?_ ?_ ?_)
    · exact tx9f
    · intro q hq
      simp only [List.mem_cons, List.not_mem_nil, or_false] at hq
      rcases hq with rfl | rfl <;> exact ⟨by kernel_rfl, by first | rfl | assumption⟩
    · exact due_len Na.len Nb.len hl0 hl1 (by decide) (by decide)
    · exact .inr (.inr (.inr (.inr (.inr (.inr (⟨hkz, _, rfl⟩))))))
    · exact .inr (.inr (.inr (.inr (.inr (.inr (⟨hkz, _, rfl⟩))))))
    · exact ⟨.tail _ (.head _), fun h => by rw [hkz] at h; exact absurd h (by decide), fun h => by rw [hkz] at h; exact absurd h (by decide), fun _ => .head _, fun h => by rw [hkz] at h; exact absurd h (by decide)⟩)
end
section
open PySem PySem.W PySem.Calls PyProof.Rows PySem.SeqAt
set_option Elab.async false
set_option maxRecDepth 100000
set_option maxHeartbeats 4000000
abbrev UN : Str := Str.ofString "<UNNAMED_SECTION>"
def W09 (k : Int) : Str := if k = 0 ∨ k = 1 then UN else if k = 2 then Str.ofString "'<UNNAMED_SECTION>'" else if k = 3 then Str.ofString "(<UNNAMED_SECTION>,)" else if k = 4 then Str.ofString "[<UNNAMED_SECTION>, <UNNAMED_SECTION>]" else if k = 5 then Str.ofString "'k'" else Str.ofString "(<UNNAMED_SECTION>, 'k')"
section
variable {p : Program} {loose : List Str} {mean : ExcName → Option Value} {mg mb : Str → Option Value} {w : World} {h : Heap} {one other d1 d2 : Addr} {k : Int} {v : Value}
abbrev P09 : Program := PySem.Challenge.rw_dm0028_09.prog
abbrev Un (h : Heap) (x : Addr) : Prop := ∃ d, InstAt h x (instObj 194 d) 194 (some (dictOf [] 0))
theorem un_tells (X : (hz.heap_188 w.params).In h) (T : Top p loose mean mg mb h) (x : Addr) : Tells P09 w h 191 x UN := fun A s Q E a1 a3 a4 g q => weakenN a1 a3 a4 (rep09 w s x Q E (X.keeps g) (T.keeps g) fun h' tk u g' => q h' u tk g')
theorem un_repI (X : (hz.heap_188 w.params).In h) (T : Top p loose mean mg mb h) {x : Addr} (I : Un h x) : RepI P09 w h (.ref x) UN := by
  obtain ⟨d, I⟩ := I
  exact repI_inst (f := 191) X I (by kernel_rfl) (by kernel_rfl) (un_tells X T x)
theorem un_rep (X : (hz.heap_188 w.params).In h) (T : Top p loose mean mg mb h) {x : Addr} (I : Un h x) : Rep P09 w h (.ref x) UN := by
  obtain ⟨d, I⟩ := I
  exact rep_inst (f := 191) X I (by kernel_rfl) (by kernel_rfl) (un_tells X T x) (by decide +kernel)
theorem un_wr (X : (hz.heap_188 w.params).In h) (T : Top p loose mean mg mb h) {x : Addr} (I : Un h x) : WrOk 610 2100 w h (.ref x) UN := by
  obtain ⟨d, I⟩ := I
  exact fun s Q E g q => wr_inst w s x d (inst_grow I g) Q E (X.keeps g) (T.keeps g) q
theorem st_wr (X : (hz.heap_188 w.params).In h) (T : Top p loose mean mg mb h) (y : Str) (t : Tok) (hl : y.length ≤ 100) : WrOk 610 2100 w h (.str y t) (Str.ofString "'" ++ y ++ Str.ofString "'") :=
  fun s Q E g q => wr_str w s y t hl Q E (X.keeps g) (T.keeps g) q
theorem wr_low {t : Str} (c : WrOk 610 2100 w h v t) : WrOk 600 2000 w h v t := fun s Q E g q => weaken rfl rfl (by decide) (by decide) (c s Q E g q)
theorem nm09 (X : (hz.heap_188 w.params).In h) (T : Top p loose mean mg mb h) (I1 : Un h one) (I2 : Un h other) (x : ShV h one other k v) : Nm w h v (W09 k) := by
  have i1 := un_repI X T I1
  have i2 := un_repI X T I2
  have rk : ∀ t, RepI P09 w h (.str (Str.ofString "k") t) (reprText (Str.ofString "k")) := fun t => repI_str (by decide +kernel)
  cases x with
  | s0 => exact ⟨wr_low (un_wr X T I1), un_rep X T I1, by decide +kernel, (by intro e; cases e), rfl⟩
  | s1 => exact ⟨wr_low (un_wr X T I2), un_rep X T I2, by decide +kernel, (by intro e; cases e), rfl⟩
  | s2 t =>
    refine ⟨?_, ?_, by decide +kernel, (by intro e; cases e), rfl⟩
    · have := wr_low (st_wr X T UN t (by decide +kernel))
      rwa [show Str.ofString "'" ++ UN ++ Str.ofString "'" = W09 2 by decide +kernel] at this
    · have := rep_str (prog := P09) (w := w) (hb := h) (x := UN) (t := t) (by decide +kernel)
      rwa [show reprText UN = W09 2 by decide +kernel] at this
  | s5 t =>
    refine ⟨?_, ?_, by decide +kernel, (by intro e; cases e), rfl⟩
    · have := wr_low (st_wr X T (Str.ofString "k") t (by decide +kernel))
      rwa [show Str.ofString "'" ++ Str.ofString "k" ++ Str.ofString "'" = W09 5 by decide +kernel] at this
    · have := rep_str (prog := P09) (w := w) (hb := h) (x := Str.ofString "k") (t := t) (by decide +kernel)
      rwa [show reprText (Str.ofString "k") = W09 5 by decide +kernel] at this
  | s3 a ha =>
    refine ⟨?_, ?_, by decide +kernel, (by intro e; cases e), rfl⟩
    · have : WrOk 600 2000 w h (.ref a) _ := fun s Q E g q => wr_tup1 w s a (.ref one) UN (by decide +kernel) (tup_grow g ha) (fun s' Q' E' g' q' => un_wr X T I1 s' Q' E' (g.trans g') q') Q E (X.keeps g) (T.keeps g) q
      rwa [show Str.ofString "(" ++ Txt.join (Str.ofString ", ") [UN] ++ Str.ofString ",)" = W09 3 by decide +kernel] at this
    · obtain ⟨o, ho, hc, n, hd⟩ := ha
      have := rep_tup ho hc hd (.cons i1 .nil) (by decide +kernel)
      rwa [show tupleText [UN] = W09 3 by decide +kernel] at this
  | s6 a t ha =>
    refine ⟨?_, ?_, by decide +kernel, (by intro e; cases e), rfl⟩
    · have : WrOk 600 2000 w h (.ref a) _ := fun s Q E g q => wr_tup2 w s a (.ref other) UN (by decide +kernel) (.str (Str.ofString "k") t) (Str.ofString "'" ++ Str.ofString "k" ++ Str.ofString "'") (by decide +kernel) (tup_grow g ha) (fun s' Q' E' g' q' => un_wr X T I2 s' Q' E' (g.trans g') q') (fun s' Q' E' g' q' => st_wr X T (Str.ofString "k") t (by decide +kernel) s' Q' E' (g.trans g') q') Q E (X.keeps g) (T.keeps g) q
      rwa [show Str.ofString "(" ++ Txt.join (Str.ofString ", ") [UN, Str.ofString "'" ++ Str.ofString "k" ++ Str.ofString "'"] ++ Str.ofString ")" = W09 6 by decide +kernel] at this
    · obtain ⟨o, ho, hc, n, hd⟩ := ha
      have := rep_tup ho hc hd (.cons i2 (.cons (rk t) .nil)) (by decide +kernel)
      rwa [show tupleText [UN, reprText (Str.ofString "k")] = W09 6 by decide +kernel] at this
  | s4 a ha =>
    refine ⟨?_, ?_, by decide +kernel, (by intro e; cases e), rfl⟩
    · have : WrOk 600 2000 w h (.ref a) _ := fun s Q E g q => wr_list2 w s a (.ref other) UN (by decide +kernel) (.ref one) UN (by decide +kernel) (list_grow g ha) (fun s' Q' E' g' q' => un_wr X T I2 s' Q' E' (g.trans g') q') (fun s' Q' E' g' q' => un_wr X T I1 s' Q' E' (g.trans g') q') Q E (X.keeps g) (T.keeps g) q
      rwa [show Str.ofString "[" ++ Txt.join (Str.ofString ", ") [UN, UN] ++ Str.ofString "]" = W09 4 by decide +kernel] at this
    · obtain ⟨o, ho, hc, n, hd⟩ := ha
      have := rep_list2 i2 i1 ho hc hd (by decide +kernel) (by decide +kernel) (by decide +kernel)
      rwa [show listText [UN, UN] = W09 4 by decide +kernel] at this
end
end
section
open PySem PySem.W PySem.Calls PyProof.Rows PySem.SeqAt
set_option Elab.async false
set_option maxRecDepth 100000
set_option maxHeartbeats 4000000
theorem cmp194' : ∀ {w : World} {h : Heap} {x : Addr} (X : (hz.heap_188 w.params).In h) (I : Un h x), h.CmpInst x 194 [.type "object"] ∧ PySem.Challenge.rw_dm0028_09.prog = PySem.Challenge.rw_dm0028_09.prog := by
  k_fill
  intro w h x X I
  obtain ⟨d, I⟩ := I
  refine ⟨?_, rfl⟩
  refine' ⟨_, _, _, _, _, _, _, _, _, _, _, _, _, _, _, _, _, (fun n => nsFind _ n), I.at_, rfl, X 194 _ (by k_is), ⟨_, _, _, X _ _ (by k_is), rfl, ?_, fun _ => rfl⟩, ?_, ?_⟩
  · intro e he
    simp only [List.mem_toArray, List.mem_cons, List.not_mem_nil, or_false] at he
    rcases he with rfl | rfl | rfl | rfl | rfl | rfl | rfl <;> exact ⟨_, _, rfl⟩
  · kernel_rfl
  · kernel_rfl
theorem cmp194 {w : World} {h : Heap} {x : Addr} (X : (hz.heap_188 w.params).In h) (I : Un h x) : h.CmpInst x 194 [.type "object"] := (cmp194' X I).1
section
variable {w : World} {A : Around} {s : Shared} {h₀ : Heap} {L one other A3 A4 A6 B3 B4 B6 : Addr} {t6 u6 : Tok} {k : Int} {v v' : Value} {news : List (Addr × Obj)}
theorem eqAt_un (X : (hz.heap_188 w.params).In s.heap) {x y : Addr} (I : Un s.heap x) (J : Un s.heap y) (hxy : x ≠ y) (hu : A.units < cLine) : EqAt A s (.ref x) (.ref y) false :=
  EqAt.of_refs hxy fun prog w' E Q q => by
    obtain ⟨hh, g, d, t, os⟩ := s
    exact richCompare_eq_other PySem.F.cmp_object PySem.F.cmp_object (cmp194 X I) (cmp194 X J) hxy hu q
/-- what the ledger bears of one pick -/
structure PickIn (news : List (Addr × Obj)) (one other A3 A4 A6 : Addr) (t6 : Tok) : Prop where
  m3 : (A3, tupObj [.ref one]) ∈ news
  m4 : (A4, listOf #[.ref other, .ref one] 0) ∈ news
  m6 : (A6, tupObj [.ref other, .str (Str.ofString "k") t6]) ∈ news
theorem tup_in {xs : List Value} {a : Addr} (N : News h₀ L s.heap news) (hm : (a, tupObj xs) ∈ news) : s.heap.IsTuple a xs.toArray := ⟨_, (N _ hm).1, rfl, _, rfl⟩
theorem lst_in {xs : Array Value} {a : Addr} {n : Nat} (N : News h₀ L s.heap news) (hm : (a, listOf xs n) ∈ news) : s.heap.IsList a xs := ⟨_, (N _ hm).1, rfl, _, rfl⟩
theorem shv_of (N : News h₀ L s.heap news) (p : PickIn news one other A3 A4 A6 t6) (x : V09 one other A3 A4 A6 k v) : ShV s.heap one other k v := by
  rcases x with ⟨rfl, rfl⟩ | ⟨rfl, rfl⟩ | ⟨rfl, t, rfl⟩ | ⟨rfl, rfl⟩ | ⟨rfl, rfl⟩ | ⟨rfl, t, rfl⟩ | ⟨rfl, rfl⟩
  · exact .s0
  · exact .s1
  · exact .s2 t
  · exact .s3 _ (tup_in N p.m3)
  · exact .s4 _ (lst_in N p.m4)
  · exact .s5 t
  · exact .s6 _ _ (tup_in N p.m6)
/-- a name is not unequal to itself -/
theorem self_ne (X : (hz.heap_188 w.params).In s.heap) (I : Un s.heap one) (J : Un s.heap other) (x : ShV s.heap one other k v) (hu : A.units + 64 < cLine) : RcNeAt A s v v false := by
  cases x with
  | s0 =>
    intro prog w' E Q q
    obtain ⟨hh, g, d, t, os⟩ := s
    exact richCompare_ne_same PySem.F.cmp_object (cmp194 X I) (by omega) q
  | s1 =>
    intro prog w' E Q q
    obtain ⟨hh, g, d, t, os⟩ := s
    exact richCompare_ne_same PySem.F.cmp_object (cmp194 X J) (by omega) q
  | s2 t => simpa using RcNeAt.str_str (A := A) (s := s) (Str.ofString "<UNNAMED_SECTION>") t (Str.ofString "<UNNAMED_SECTION>") t
  | s5 t => simpa using RcNeAt.str_str (A := A) (s := s) (Str.ofString "k") t (Str.ofString "k") t
  | s3 a ha => simpa using RcNeAt.tuples (e := fun _ => true) ha ha (by omega) fun j h1 h2 => EqAt.same _
  | s6 a t ha => exact RcNeAt.tuples (e := fun _ => true) ha ha (by omega) fun j h1 h2 => EqAt.same _
  | s4 a ha => exact RcNeAt.lists (e := fun _ => true) ha ha rfl (by omega) fun j h1 h2 => EqAt.same _
def isTxt (k : Int) : Bool := decide (k = 2 ∨ k = 5)
/-- the same pick, with the sections in each other's places -/
def ShF (h : Heap) (one other : Addr) (k : Int) (v : Value) : Prop :=
  if k = 0 then v = .ref one else if k = 1 then v = .ref other else if k = 2 then ∃ t, v = .str (Str.ofString "<UNNAMED_SECTION>") t else if k = 3 then ∃ a, v = .ref a ∧ h.IsTuple a #[.ref one]
  else if k = 4 then ∃ a, v = .ref a ∧ h.IsList a #[.ref other, .ref one] else if k = 5 then ∃ t, v = .str (Str.ofString "k") t else ∃ a t, v = .ref a ∧ h.IsTuple a #[.ref other, .str (Str.ofString "k") t]
theorem ShV.toF {h : Heap} {k : Int} {v : Value} (x : ShV h one other k v) : ShF h one other k v := by
  cases x with
  | s0 => exact rfl
  | s1 => exact rfl
  | s2 t => exact ⟨t, rfl⟩
  | s3 a ha => exact ⟨a, rfl, ha⟩
  | s4 a ha => exact ⟨a, rfl, ha⟩
  | s5 t => exact ⟨t, rfl⟩
  | s6 a t ha => exact ⟨a, t, rfl, ha⟩
theorem tup_apart {h : Heap} {a b : Addr} {xs ys : List Value} (ha : h.IsTuple a xs.toArray) (hb : h.IsTuple b ys.toArray) (e : xs ≠ ys) : b ≠ a := by
  rintro rfl
  obtain ⟨o, q, _, n, r⟩ := ha
  obtain ⟨o', q', _, n', r'⟩ := hb
  rw [q] at q'; cases q'
  rw [r] at r'; injection r' with r1
  exact e (congrArg Array.toList r1)
theorem lst_apart {h : Heap} {a b : Addr} {xs ys : List Value} (ha : h.IsList a xs.toArray) (hb : h.IsList b ys.toArray) (e : xs ≠ ys) : b ≠ a := by
  rintro rfl
  obtain ⟨o, q, _, n, r⟩ := ha
  obtain ⟨o', q', _, n', r'⟩ := hb
  rw [q] at q'; cases q'
  rw [r] at r'; injection r' with r1
  exact e (congrArg Array.toList r1)
theorem hd_ne {a b : Addr} {r r' : List Value} (h : a ≠ b) : Value.ref a :: r ≠ Value.ref b :: r' := fun e => by injection e with e _; injection e with e; exact h e
theorem es0 {B : Around} {x : Str} {t u : Tok} : EqAt B s (.str x t) (.str x u) true := by simpa using EqAt.str_str (A := B) (s := s) x t x u
theorem cross_eq (X : (hz.heap_188 w.params).In s.heap) (I : Un s.heap one) (J : Un s.heap other) (hne : one ≠ other) (x : ShV s.heap one other k v) (y : ShV s.heap other one k v') (hu : A.units + 64 < cLine) : EqAt A s v' v (isTxt k) := by
  have e1 : ∀ B : Around, B.units < cLine → EqAt B s (.ref other) (.ref one) false := fun B hB => eqAt_un X J I (Ne.symm hne) hB
  have e2 : ∀ B : Around, B.units < cLine → EqAt B s (.ref one) (.ref other) false := fun B hB => eqAt_un X I J hne hB
  have u0 : A.units < cLine := by omega
  have u1 : A.in1.units < cLine := by show A.units + 1 < cLine; omega
  have y' := y.toF
  clear y
  cases x with
  | s0 => obtain rfl : v' = _ := y'; exact e1 A u0
  | s1 => obtain rfl : v' = _ := y'; exact e2 A u0
  | s2 t => obtain ⟨t', rfl⟩ : ∃ t', v' = .str (Str.ofString "<UNNAMED_SECTION>") t' := y'; exact es0
  | s5 t => obtain ⟨t', rfl⟩ : ∃ t', v' = .str (Str.ofString "k") t' := y'; exact es0
  | s3 a ha =>
    obtain ⟨b, rfl, hb⟩ : ∃ b, v' = .ref b ∧ s.heap.IsTuple b #[.ref other] := y'
    exact EqAt.of_refs (tup_apart (xs := [_]) (ys := [_]) ha hb (hd_ne hne)) (RcAt.tuples (A := A) (e := fun _ => false) hb ha u0 fun j h1 h2 => match j, h1 with | 0, _ => e1 A.in1 u1)
  | s6 a t ha =>
    obtain ⟨b, t', rfl, hb⟩ : ∃ b t', v' = .ref b ∧ s.heap.IsTuple b #[.ref one, .str (Str.ofString "k") t'] := y'
    exact EqAt.of_refs (tup_apart (xs := [_, _]) (ys := [_, _]) ha hb (hd_ne (Ne.symm hne))) (RcAt.tuples (A := A) (e := fun j => Nat.beq j 1) hb ha u0 fun j h1 h2 => match j, h1 with | 0, _ => e2 A.in1 u1 | 1, _ => es0)
  | s4 a ha =>
    obtain ⟨b, rfl, hb⟩ : ∃ b, v' = .ref b ∧ s.heap.IsList b #[.ref one, .ref other] := y'
    exact EqAt.of_refs (lst_apart (xs := [_, _]) (ys := [_, _]) ha hb (hd_ne (Ne.symm hne))) (RcAt.lists (A := A) (e := fun _ => false) hb ha rfl u0 fun j h1 h2 => match j, h1 with | 0, _ => e2 A.in1 u1 | 1, _ => e1 A.in1 u1)
end
end
section
open PySem PySem.W PySem.Calls PyProof.Rows PySem.SeqAt
set_option Elab.async false
set_option maxRecDepth 100000
set_option maxHeartbeats 4000000
set_option linter.unusedVariables false
noncomputable abbrev KP (w : World) : Frag := hz.heap_188 w.params
section
variable {p : Program} {loose : List Str} {mean : ExcName → Option Value} {mg mb : Str → Option Value}
variable {w : World} {A : Around} {E : Value → Shared → Prop} {s : Shared} {h₀ : Heap} {L : Addr} {m : Str → Option Value} {news : List (Addr × Obj)} {Q : Value → Shared → Prop} {one other : Addr} {k : Int} {f : Value} {vs : List Value}
theorem fresh_L {a : Addr} (F : Fr h₀ L s.heap m) (ha : s.heap.get? a = none) : a ≠ L := fun z => by
  obtain ⟨o, _, _, ho, _⟩ := F.ns
  rw [z, ho] at ha; cases ha
theorem fresh_0 {a : Addr} (F : Fr h₀ L s.heap m) (ha : s.heap.get? a = none) : h₀.get? a = none := by
  cases q : h₀.get? a with
  | none => rfl
  | some o => rw [F.keep _ _ q] at ha; cases ha
theorem fresh_N {a : Addr} (N : News h₀ L s.heap news) (ha : s.heap.get? a = none) : AllNe a news := allNe_of fun p hp z => by
  have := (N p hp).1
  rw [z, ha] at this; cases this
theorem val_use (c : ∀ Q E, (∀ h' tk v A3 A4 A6 t6, Grow s.heap h' → ValC s.heap h' one other k v A3 A4 A6 t6 → Q v { s with heap := h', toks := tk }) → wpAny (model P09 w) (AD 600 2000) (call f vs) Q E s)
    (F : Fr h₀ L s.heap m) (N : News h₀ L s.heap news) (h1 : A.handled = none) (h2 : A.guards = some []) (h3 : A.depth ≤ 600) (h4 : A.units ≤ 2000)
    (h : ∀ h' tk v A3 A4 A6 t6, Fr h₀ L h' m → News h₀ L h' ((A3, tupObj [.ref one]) :: (A4, listOf #[.ref other, .ref one] 0) :: (A6, tupObj [.ref other, .str (Str.ofString "k") t6]) :: news) → AllNe A3 news → AllNe A4 news → AllNe A6 news → V09 one other A3 A4 A6 k v → Q v { s with heap := h', toks := tk }) :
    wpAny (model P09 w) A (call f vs) Q E s := by
  refine weaken h1 h2 h3 h4 (c Q E fun h' tk v A3 A4 A6 t6 g n => ?_)
  refine h h' tk v A3 A4 A6 t6 (fr_grow F g) ?_ (fresh_N N n.n3) (fresh_N N n.n4) (fresh_N N n.n6) n.is
  intro q hq
  rcases List.mem_cons.mp hq with rfl | hq
  · exact ⟨n.h3, fresh_L F n.n3, fresh_0 F n.n3⟩
  rcases List.mem_cons.mp hq with rfl | hq
  · exact ⟨n.h4, fresh_L F n.n4, fresh_0 F n.n4⟩
  rcases List.mem_cons.mp hq with rfl | hq
  · exact ⟨n.h6, fresh_L F n.n6, fresh_0 F n.n6⟩
  · exact news_grow N g q hq
theorem made_use {kind : Int} {a b : Value} {line : Int} {due : Str} (c : ∀ Q E, (∀ h' tk l e d tA t2 C od fs xs ys u um n, Grow s.heap h' → MadeC w s.heap h' kind a b line due l e d tA t2 C od fs xs ys u um n → Q (.ref l) { s with heap := h', toks := tk }) → wpAny (model P09 w) (AD 500 1500) (call f vs) Q E s)
    (F : Fr h₀ L s.heap m) (N : News h₀ L s.heap news) (h1 : A.handled = none) (h2 : A.guards = some []) (h3 : A.depth ≤ 500) (h4 : A.units ≤ 1500)
    (h : ∀ h' tk l e d tA t2 C od fs xs ys u um n, Fr h₀ L h' m → News h₀ L h' ((l, listOf #[.ref e, .str due u, .ref t2] n) :: (t2, tupObj ys) :: (e, excObj C (some d) tA) :: (d, od) :: (tA, tupObj xs) :: news) → AllNe l news → AllNe t2 news → AllNe e news → AllNe d news → AllNe tA news →
      (∃ h0 h1, MadeC w h0 h1 kind a b line due l e d tA t2 C od fs xs ys u um n) → Q (.ref l) { s with heap := h', toks := tk }) :
    wpAny (model P09 w) A (call f vs) Q E s := by
  refine weaken h1 h2 h3 h4 (c Q E fun h' tk l e d tA t2 C od fs xs ys u um n g z => ?_)
  refine h h' tk l e d tA t2 C od fs xs ys u um n (fr_grow F g) ?_ (fresh_N N z.nl) (fresh_N N z.n2) (fresh_N N z.ne) (fresh_N N z.nd) (fresh_N N z.nt) ⟨_, _, z⟩
  intro q hq
  rcases List.mem_cons.mp hq with rfl | hq
  · exact ⟨z.hl, fresh_L F z.nl, fresh_0 F z.nl⟩
  rcases List.mem_cons.mp hq with rfl | hq
  · exact ⟨z.h2, fresh_L F z.n2, fresh_0 F z.n2⟩
  rcases List.mem_cons.mp hq with rfl | hq
  · exact ⟨z.he, fresh_L F z.ne, fresh_0 F z.ne⟩
  rcases List.mem_cons.mp hq with rfl | hq
  · exact ⟨z.hd, fresh_L F z.nd, fresh_0 F z.nd⟩
  rcases List.mem_cons.mp hq with rfl | hq
  · exact ⟨z.ht, fresh_L F z.nt, fresh_0 F z.nt⟩
  · exact news_grow N g q hq
theorem gets_led {expr : Bool} {C e d ta f : Addr} {od : Obj} {name : Str} {v : Value} {K : Frag} (F : Fr h₀ L s.heap m) (X₀ : K.In h₀) (N : News h₀ L s.heap news) (h1 : (e, excObj C (some d) ta) ∈ news) (h2 : (d, od) ∈ news) (c : clsB K C f = true) (n : nameB K C name = true) (hl : lookIn name od = some (some v)) (hv : handedIn v = true)
    (q : Q v { s with toks := s.toks + 1 }) : wpAny (model P09 w) A (getAttr (.ref e) name expr) Q E s := gets_field (X₀.keeps F.keep) (N _ h1).1 (N _ h2).1 c n hl hv A s Q E expr (Grow.refl _) q
theorem args_led {expr : Bool} {C e d ta f : Addr} {od : Obj} {K : Frag} (F : Fr h₀ L s.heap m) (X₀ : K.In h₀) (N : News h₀ L s.heap news) (h1 : (e, excObj C (some d) ta) ∈ news) (h2 : (d, od) ∈ news) (c : clsB K C f = true)
    (q : Q (.ref ta) { s with toks := s.toks + 1 }) : wpAny (model P09 w) A (getAttr (.ref e) (Str.ofString "args") expr) Q E s := gets_args (X₀.keeps F.keep) (N _ h1).1 (N _ h2).1 c A s Q E expr (Grow.refl _) q
theorem tells_led {C e d ta : Addr} {od : Obj} {t : Str} {u : Tok} (X : (KP w).In s.heap) (T : Top p loose mean mg mb s.heap) (he : s.heap.get? e = some (excObj C (some d) ta)) (hd : s.heap.get? d = some od) (c : clsB (KP w) C 36 = true) (n : nameB (KP w) C (Str.ofString "message") = true) (hm : lookIn (Str.ofString "message") od = some (some (.str t u))) :
    Tells P09 w s.heap 36 e t := fun A s' Q E a1 a3 a4 g q => weakenN a1 a3 a4 (msg09 w s' e t u ((gets_field X he hd c n hm rfl).grow g) Q E (X.keeps g) (T.keeps g) fun h' tk u g' => q h' u tk g')
theorem str_led {C e d ta : Addr} {od : Obj} {t : Str} {u : Tok} (F : Fr h₀ L s.heap m) (X₀ : (KP w).In h₀) (T : Top p loose mean mg mb h₀) (N : News h₀ L s.heap news) (h1 : (e, excObj C (some d) ta) ∈ news) (h2 : (d, od) ∈ news) (c : clsB (KP w) C 36 = true) (n : nameB (KP w) C (Str.ofString "message") = true) (hm : lookIn (Str.ofString "message") od = some (some (.str t u)))
    (a1 : A.handled = none) (a3 : A.depth ≤ 850) (a4 : A.units ≤ 4200) (q : ∀ h' u tk, Fr h₀ L h' m → News h₀ L h' news → Q (.str t u) { s with heap := h', toks := tk }) : wpAny (model P09 w) A (call (.type "str") [.ref e]) Q E s :=
  strOk_of (X₀.keeps F.keep) (N _ h1).1 (N _ h2).1 c (tells_led (X₀.keeps F.keep) (T.keeps F.keep) (N _ h1).1 (N _ h2).1 c n hm) A s Q E a1 a3 a4 (Grow.refl _) fun h' u tk g => q h' u tk (fr_grow F g) (news_grow N g)
theorem repr_led {C e d ta : Addr} {od : Obj} {t : Str} {u : Tok} (F : Fr h₀ L s.heap m) (X₀ : (KP w).In h₀) (T : Top p loose mean mg mb h₀) (N : News h₀ L s.heap news) (h1 : (e, excObj C (some d) ta) ∈ news) (h2 : (d, od) ∈ news) (c : clsB (KP w) C 36 = true) (n : nameB (KP w) C (Str.ofString "message") = true) (hm : lookIn (Str.ofString "message") od = some (some (.str t u)))
    (hl : t.length ≤ 1000) (a1 : A.handled = none) (a2 : A.guards = some []) (a3 : A.depth ≤ 800) (a4 : A.units ≤ 4000) (q : ∀ h' u tk, Fr h₀ L h' m → News h₀ L h' news → Q (.str t u) { s with heap := h', toks := tk }) : wpAny (model P09 w) A (call (.builtin "repr") [.ref e]) Q E s :=
  (repErr_of (X₀.keeps F.keep) (N _ h1).1 (N _ h2).1 c (tells_led (X₀.keeps F.keep) (T.keeps F.keep) (N _ h1).1 (N _ h2).1 c n hm) (Nat.le_trans hl (by decide))).call A s Q E a1 a2 a3 a4 (Grow.refl _) fun h' u tk g => q h' u tk (fr_grow F g) (news_grow N g)
/-- a comprehension's item is made: nothing, or three objects besides -/
theorem comp_end0 {I C D : Addr} {s₁ : Shared} {oI oC oD : Obj} {S : List (Addr × Obj) → Prop} {rest : Value → List (Addr × Obj) → Prop} {y : Value} {h' : Heap} {tk : Nat}
    (F : Fr h₀ L h' m) (N : News h₀ L h' ((I, oI) :: (C, oC) :: (D, oD) :: news)) (off : LCg.Off3 I C D news) (hS : S news) (r : rest y news) : LCg.CompEnd h₀ L m s₁ I oI C oC D oD S rest y { s₁ with heap := h', toks := tk } := ⟨h', tk, news, rfl, F, N, off, hS, r⟩
theorem mem36 {α : Type} {a b c x y z q : α} {l : List α} (h : q ∈ a :: b :: c :: x :: y :: z :: l) : q ∈ x :: y :: z :: a :: b :: c :: l :=
  (List.perm_append_comm_assoc [a, b, c] [x, y, z] l).mem_iff.mp h
theorem comp_end3 {I C D : Addr} {s₁ : Shared} {oI oC oD : Obj} {S : List (Addr × Obj) → Prop} {rest : Value → List (Addr × Obj) → Prop} {y : Value} {h' : Heap} {tk : Nat} {x1 x2 x3 : Addr × Obj}
    (F : Fr h₀ L h' m) (N : News h₀ L h' (x1 :: x2 :: x3 :: (I, oI) :: (C, oC) :: (D, oD) :: news)) (n1 : AllNe x1.1 ((I, oI) :: (C, oC) :: (D, oD) :: news)) (n2 : AllNe x2.1 ((I, oI) :: (C, oC) :: (D, oD) :: news)) (n3 : AllNe x3.1 ((I, oI) :: (C, oC) :: (D, oD) :: news))
    (off : LCg.Off3 I C D news) (hS : S (x1 :: x2 :: x3 :: news)) (r : rest y (x1 :: x2 :: x3 :: news)) : LCg.CompEnd h₀ L m s₁ I oI C oC D oD S rest y { s₁ with heap := h', toks := tk } := by
  refine ⟨h', tk, x1 :: x2 :: x3 :: news, rfl, F, fun q hq => N q (mem36 hq), ⟨⟨Ne.symm n1.1, Ne.symm n1.2.1, Ne.symm n1.2.2.1⟩, ⟨Ne.symm n2.1, Ne.symm n2.2.1, Ne.symm n2.2.2.1⟩, ⟨Ne.symm n3.1, Ne.symm n3.2.1, Ne.symm n3.2.2.1⟩, off⟩, hS, r⟩
inductive EqL (A : Around) (s : Shared) : List Value → List Value → Bool → Prop
  | nil : EqL A s [] [] true
  | cons {x y : Value} {xs ys : List Value} {b c d : Bool} : EqAt A s x y b → EqL A s xs ys c → (b && c) = d → EqL A s (x :: xs) (y :: ys) d
theorem EqL.to {A : Around} {s : Shared} : ∀ {xs ys : List Value} {c : Bool}, EqL A s xs ys c → xs.length = ys.length ∧ ∃ e : Nat → Bool, (∀ j (h1 : j < xs.length) (h2 : j < ys.length), EqAt A s xs[j] ys[j] (e j)) ∧ (List.range xs.length).all e = c
  | _, _, _, .nil => ⟨rfl, fun _ => true, fun j h1 _ => absurd h1 (Nat.not_lt_zero _), rfl⟩
  | _, _, _, .cons (b := b) h r hd => by
    obtain ⟨hl, e, he, hc⟩ := r.to
    refine ⟨congrArg (· + 1) hl, fun j => match j with | 0 => b | j + 1 => e j, fun j h1 h2 => ?_, ?_⟩
    · cases j with
      | zero => exact h
      | succ j => exact he j (Nat.lt_of_succ_lt_succ h1) (Nat.lt_of_succ_lt_succ h2)
    · rw [← hd, ← hc, List.length_cons, List.range_succ_eq_map, List.all_cons, List.all_map]
      rfl
def bothTxt (kind ka kb : Int) : Bool := if kind = 0 ∨ kind = 2 then isTxt ka else isTxt ka && isTxt kb
def bothB (kind : Int) (p q : Bool) : Bool := if kind = 0 ∨ kind = 2 then p else p && q
theorem cab {kind i j : Int} {C : Prop} (k1 : kind = i) (k2 : kind = j) (h : decide (i = j) = false) : C := absurd (k1.symm.trans k2) (of_decide_eq_false h)
theorem at0 {a b : Value} {line : Int} {ys : List Value} (h : argsAre 0 a b line ys) : ys = [a] := by
  rcases h with ⟨k, e⟩ | ⟨k, e⟩ | ⟨k, e⟩ | ⟨k, e⟩ | ⟨k, e⟩ | ⟨k, e⟩ | ⟨k, e⟩ <;> first | exact e | exact cab k rfl rfl
theorem at1 {a b : Value} {line : Int} {ys : List Value} (h : argsAre 1 a b line ys) : ys = [b, a] := by
  rcases h with ⟨k, e⟩ | ⟨k, e⟩ | ⟨k, e⟩ | ⟨k, e⟩ | ⟨k, e⟩ | ⟨k, e⟩ | ⟨k, e⟩ <;> first | exact e | exact cab k rfl rfl
theorem at2 {a b : Value} {line : Int} {ys : List Value} (h : argsAre 2 a b line ys) : ∃ t, ys = [a, .none, .int line t] := by
  rcases h with ⟨k, e⟩ | ⟨k, e⟩ | ⟨k, e⟩ | ⟨k, e⟩ | ⟨k, e⟩ | ⟨k, e⟩ | ⟨k, e⟩ <;> first | exact e | exact cab k rfl rfl
theorem at3 {a b : Value} {line : Int} {ys : List Value} (h : argsAre 3 a b line ys) : ∃ t, ys = [a, b, .int line t] := by
  rcases h with ⟨k, e⟩ | ⟨k, e⟩ | ⟨k, e⟩ | ⟨k, e⟩ | ⟨k, e⟩ | ⟨k, e⟩ | ⟨k, e⟩ <;> first | exact e | exact cab k rfl rfl
theorem at4 {a b : Value} {line : Int} {ys : List Value} (h : argsAre 4 a b line ys) : ys = [a, b, .none, .none] := by
  rcases h with ⟨k, e⟩ | ⟨k, e⟩ | ⟨k, e⟩ | ⟨k, e⟩ | ⟨k, e⟩ | ⟨k, e⟩ | ⟨k, e⟩ <;> first | exact e | exact cab k rfl rfl
theorem at5 {a b : Value} {line : Int} {ys : List Value} (h : argsAre 5 a b line ys) : ∃ t t', ys = [b, a, .str (Str.ofString "v") t, .str (Str.ofString "r") t'] := by
  rcases h with ⟨k, e⟩ | ⟨k, e⟩ | ⟨k, e⟩ | ⟨k, e⟩ | ⟨k, e⟩ | ⟨k, e⟩ | ⟨k, e⟩ <;> first | exact e | exact cab k rfl rfl
theorem at6 {a b : Value} {line : Int} {ys : List Value} (h : argsAre 6 a b line ys) : ∃ t, ys = [b, a, .str (Str.ofString "v") t] := by
  rcases h with ⟨k, e⟩ | ⟨k, e⟩ | ⟨k, e⟩ | ⟨k, e⟩ | ⟨k, e⟩ | ⟨k, e⟩ | ⟨k, e⟩ <;> first | exact e | exact cab k rfl rfl
theorem ei_ {A : Around} {s : Shared} {line : Int} (t u : Tok) : EqAt A s (.int line t) (.int line u) true := by simpa using EqAt.int_int (A := A) (s := s) line t line u
theorem es_ {A : Around} {s : Shared} {x : Str} (t u : Tok) : EqAt A s (.str x t) (.str x u) true := by simpa using EqAt.str_str (A := A) (s := s) x t x u
theorem EqL.uno {A : Around} {s : Shared} {a a' : Value} {p : Bool} (h : EqAt A s a' a p) : EqL A s [a'] [a] p := .cons h .nil (Bool.and_true _)
theorem EqL.pre {A : Around} {s : Shared} {a a' : Value} {xs ys : List Value} {p q : Bool} (h : EqAt A s a' a p) (r : EqL A s xs ys q) : EqL A s (a' :: xs) (a :: ys) (p && q) := .cons h r rfl
theorem EqL.swap {A : Around} {s : Shared} {xs ys : List Value} {p q : Bool} (r : EqL A s xs ys (q && p)) : EqL A s xs ys (p && q) := Bool.and_comm q p ▸ r
theorem EqL.more {A : Around} {s : Shared} {a a' : Value} {xs ys : List Value} {q : Bool} (h : EqAt A s a' a q) (r : EqL A s xs ys true) : EqL A s (a' :: xs) (a :: ys) q := .cons h r (Bool.and_true _)
theorem args_L {A : Around} {s : Shared} {kind : Int} {a b a' b' : Value} {line : Int} {xs ys : List Value} {p q : Bool} (hx : argsAre kind a' b' line xs) (hy : argsAre kind a b line ys) (ea : EqAt A s a' a p) (eb : EqAt A s b' b q) : EqL A s xs ys (bothB kind p q) := by
  rcases hx with ⟨rfl, rfl⟩ | ⟨rfl, rfl⟩ | ⟨rfl, t, rfl⟩ | ⟨rfl, t, rfl⟩ | ⟨rfl, rfl⟩ | ⟨rfl, t, t', rfl⟩ | ⟨rfl, t, rfl⟩
  · rw [at0 hy]; exact .uno ea
  · rw [at1 hy]; exact (EqL.pre eb (.uno ea)).swap
  · obtain ⟨u, rfl⟩ := at2 hy; exact .more ea (.more (EqAt.same _) (.uno (ei_ _ _)))
  · obtain ⟨u, rfl⟩ := at3 hy; exact .pre ea (.more eb (.uno (ei_ _ _)))
  · rw [at4 hy]; exact .pre ea (.more eb (.more (EqAt.same _) (.uno (EqAt.same _))))
  · obtain ⟨u, u', rfl⟩ := at5 hy; exact (EqL.pre eb (.more ea (.more (es_ _ _) (.uno (es_ _ _))))).swap
  · obtain ⟨u, rfl⟩ := at6 hy; exact (EqL.pre eb (.more ea (.uno (es_ _ _)))).swap
theorem args_ne {kind : Int} {a b : Value} {line : Int} {xs ys : List Value} {tA t2 : Addr} (N : News h₀ L s.heap news) (m1 : (tA, tupObj xs) ∈ news) (m2 : (t2, tupObj ys) ∈ news) (hx : argsAre kind a b line xs) (hy : argsAre kind a b line ys) (hu : A.units + 64 < cLine) (q : Q (.bool false) s) :
    wpAny (model P09 w) A (compareOp .NotEq (.ref tA) (.ref t2)) Q E s := by
  obtain ⟨hlen, e, hall, he⟩ := (args_L (A := A.in1) (s := s) hx hy (EqAt.same _) (EqAt.same _)).to
  have := RcNeAt.tuples (A := A) (e := e) (tup_in N m1) (tup_in N m2) (by omega) fun j h1 h2 => by simpa using hall j (by simpa using h1) (by simpa using h2)
  have e : (!((List.range (min xs.toArray.size ys.toArray.size)).all e && xs.toArray.size == ys.toArray.size)) = false := by
    have e3 : bothB kind true true = true := ite_self _
    simp only [List.size_toArray, ← hlen, Nat.min_self, he, e3, beq_self_eq_true, Bool.and_self, Bool.not_true]
  rw [e] at this
  exact this P09 w E Q q
theorem args_eq {kind ka kb : Int} {a b a' b' : Value} {line : Int} {xs ys : List Value} {tA t2 : Addr} (N : News h₀ L s.heap news) (m1 : (tA, tupObj xs) ∈ news) (m2 : (t2, tupObj ys) ∈ news) (hx : argsAre kind a' b' line xs) (hy : argsAre kind a b line ys)
    (ea : EqAt A.in1 s a' a (isTxt ka)) (eb : EqAt A.in1 s b' b (isTxt kb)) (hu : A.units + 64 < cLine) (q : Q (.bool (bothTxt kind ka kb)) s) :
    wpAny (model P09 w) A (compareOp .Eq (.ref tA) (.ref t2)) Q E s := by
  obtain ⟨hlen, e, hall, he⟩ := (args_L hx hy ea eb).to
  have := RcAt.tuples (A := A) (e := e) (tup_in N m1) (tup_in N m2) (by omega) fun j h1 h2 => by simpa using hall j (by simpa using h1) (by simpa using h2)
  have e2 : ((List.range (min xs.toArray.size ys.toArray.size)).all e && xs.toArray.size == ys.toArray.size) = bothTxt kind ka kb := by
    simp only [List.size_toArray, ← hlen, Nat.min_self, he, beq_self_eq_true, Bool.and_true]
    rfl
  rw [e2] at this
  exact this P09 w E Q q
/-- is a name a text? -/
theorem isi_txt {v : Value} (X : (KP w).In s.heap) (I : Un s.heap one) (J : Un s.heap other) (x : ShV s.heap one other k v) (q : ∀ tk, Q (.bool (isTxt k)) { s with toks := tk }) : wpAny (model P09 w) A (call (.builtin "isinstance") [v, .type "str"]) Q E s := by
  have inst : ∀ (y : Addr) (b : Bool), b = false → Un s.heap y → (∀ tk, Q (.bool b) { s with toks := tk }) → wpAny (model P09 w) A (call (.builtin "isinstance") [.ref y, .type "str"]) Q E s := by
    rintro y b rfl ⟨d, I⟩ q
    exact kia_one (kitx_own (by kernel_rfl) (by kernel_rfl) (by kernel_rfl) (by kernel_rfl) (by kernel_rfl) (by kernel_rfl)) X I (by kernel_rfl) (by intro q; cases q) q
  cases x with
  | s0 => exact inst _ _ rfl I q
  | s1 => exact inst _ _ rfl J q
  | s2 t => exact kia_one kitx_str X trivial (by kernel_rfl) (by intro q; cases q) q
  | s5 t => exact kia_one kitx_str X trivial (by kernel_rfl) (by intro q; cases q) q
  | s3 a ha => exact kia_one kitx_tuple X (kitAt_tup ha (Grow.refl _)) (by kernel_rfl) (by intro q; cases q) q
  | s6 a t ha => exact kia_one kitx_tuple X (kitAt_tup ha (Grow.refl _)) (by kernel_rfl) (by intro q; cases q) q
  | s4 a ha => exact kia_one kitx_list X (kitAt_list ha (Grow.refl _)) (by kernel_rfl) (by intro q; cases q) q
end
section
variable {p : Program} {loose : List Str} {mean : ExcName → Option Value} {mg mb : Str → Option Value}
variable {w : World} {A : Around} {E : Value → Shared → Prop} {s : Shared} {h₀ : Heap} {L : Addr} {m : Str → Option Value} {news : List (Addr × Obj)} {Q : Value → Shared → Prop} {one other A3 A4 A6 d1 d2 : Addr} {t6 : Tok} {k : Int} {v : Value}
theorem un_of {x d : Addr} (N : News h₀ L s.heap news) (m1 : (x, instObj 194 d) ∈ news) (m2 : (d, dictOf [] 0) ∈ news) : Un s.heap x := ⟨d, (N _ m1).1, rfl, rfl, (N _ m2).1⟩
theorem lst_ne {xs ys : List Value} {a b : Addr} {n1 n2 : Nat} (N : News h₀ L s.heap news) (m1 : (a, listOf xs.toArray n1) ∈ news) (m2 : (b, listOf ys.toArray n2) ∈ news) (h : EqL A.in1 s xs ys true) (hu : A.units + 64 < cLine) (q : Q (.bool false) s) :
    wpAny (model P09 w) A (compareOp .NotEq (.ref a) (.ref b)) Q E s := by
  obtain ⟨hlen, e, hall, he⟩ := h.to
  have := RcNeAt.lists (A := A) (e := e) (lst_in N m1) (lst_in N m2) (by simpa using hlen) (by omega) fun j h1 h2 => by simpa using hall j (by simpa using h1) (by simpa using h2)
  rw [show (!(List.range xs.toArray.size).all e) = false by rw [List.size_toArray, he]; rfl] at this
  exact this P09 w E Q q
theorem txt3_ne {x : Str} {a b : Addr} {t1 t2 t3 u1 u2 u3 : Tok} {n1 n2 : Nat} (N : News h₀ L s.heap news) (m1 : (a, listOf #[.str x t1, .str x t2, .str x t3] n1) ∈ news) (m2 : (b, listOf #[.str x u1, .str x u2, .str x u3] n2) ∈ news) (hu : A.units + 64 < cLine) (q : Q (.bool false) s) :
    wpAny (model P09 w) A (compareOp .NotEq (.ref a) (.ref b)) Q E s := lst_ne N m1 m2 (.more (es_ _ _) (.more (es_ _ _) (.uno (es_ _ _)))) hu q
theorem two_ne {x y x' y' : Value} {a b : Addr} {n1 n2 : Nat} (N : News h₀ L s.heap news) (m1 : (a, listOf #[x, y] n1) ∈ news) (m2 : (b, listOf #[x', y'] n2) ∈ news) (e1 : EqAt A.in1 s x x' true) (e2 : EqAt A.in1 s y y' true) (hu : A.units + 64 < cLine) (q : Q (.bool false) s) :
    wpAny (model P09 w) A (compareOp .NotEq (.ref a) (.ref b)) Q E s := lst_ne N m1 m2 (.more e1 (.uno e2)) hu q
theorem int_eqAt {i : Int} {t u : Tok} : EqAt A s (.int i t) (.int i u) true := by simpa using EqAt.int_int (A := A) (s := s) i t i u
theorem lines09 {prog : Program} {n : Int} (h0 : 10 ≤ n) (h1 : n ≤ 99) : Lines prog w n (lineText n) := lines_of (log2_ok (by omega)) (Nat.le_trans (fig2_len (by omega)) (by decide))
end
section
variable {prog : Program} {w : World} {A : Around} {E : Value → Shared → Prop} {s : Shared} {h₀ : Heap} {L : Addr} {m : Str → Option Value} {news : List (Addr × Obj)} {Q : Value → Shared → Prop}
theorem mul3 {l : Addr} {v : Value} {n : Nat} {u : Tok} (F : Fr h₀ L s.heap m) (N : News h₀ L s.heap news) (hm : (l, listOf #[v] n) ∈ news) (h : ∀ D h', Fr h₀ L h' m → News h₀ L h' ((D, listOf #[v, v, v] 0) :: news) → Q (.ref D) { s with heap := h' }) :
    wpAny (model prog w) A (binaryOp .Mult (.ref l) (.int 3 u)) Q E s :=
  mul_list F N (N _ hm).1 (by decide) (by decide) (by show 1 * 3 ≤ 2 ^ 24; decide) fun h' F' N' => h _ h' F' N'
end
theorem args3 {kind : Int} {a b : Value} {line : Int} {xs : List Value} (h : kind = 3) (x : argsAre kind a b line xs) : ∃ t, xs = [a, b, .int line t] := at3 (h ▸ x)
theorem args2 {kind : Int} {a b : Value} {line : Int} {xs : List Value} (h : kind = 2) (x : argsAre kind a b line xs) : ∃ t, xs = [a, .none, .int line t] := at2 (h ▸ x)
section
variable {prog : Program} {w : World} {A : Around} {E : Value → Shared → Prop} {s : Shared} {Q : Value → Shared → Prop}
theorem ne_int_same {i : Int} {t u : Tok} (q : Q (.bool false) s) : wpAny (model prog w) A (compareOp .NotEq (.int i t) (.int i u)) Q E s := by
  have := RcNeAt.int_int (A := A) (s := s) i t i u
  rw [show (!(i == i)) = false by simp] at this
  exact this prog w E Q q
theorem ne_str_same {i : Str} {t u : Tok} (q : Q (.bool false) s) : wpAny (model prog w) A (compareOp .NotEq (.str i t) (.str i u)) Q E s := by
  have := RcNeAt.str_str (A := A) (s := s) i t i u
  rw [show (!(i == i)) = false by simp] at this
  exact this prog w E Q q
end
theorem any4 {k : Int} (h : ([1, 4, 5, 6].any fun x => x == k) = true) : k = 1 ∨ k = 4 ∨ k = 5 ∨ k = 6 := by
  obtain ⟨x, hx, e⟩ := List.any_eq_true.mp h
  simpa only [eq_of_beq e, List.mem_cons, List.not_mem_nil, or_false] using hx
theorem any5 {k : Int} (h : ([1, 4, 5, 6].any fun x => x == k) = false) (h5 : k = 5) : False := by
  subst h5
  exact absurd h (by decide)
section
variable {prog : Program} {w : World} {A : Around} {E : Value → Shared → Prop} {s : Shared} {Q : Value → Shared → Prop} {h₀ : Heap} {L : Addr} {m : Str → Option Value} {news : List (Addr × Obj)}
theorem ne_of {one other A3 A4 A6 B3 B4 B6 : Addr} {k k' : Int} {v v' : Value} (_ : V09 one other A3 A4 A6 k v) (_ : V09 other one B3 B4 B6 k' v') (h : @LT.lt Nat _ one other) : one ≠ other := Nat.ne_of_lt h
theorem ne_bool_same {p q : Bool} (h : p = q) (z : Q (.bool false) s) : wpAny (model prog w) A (compareOp .NotEq (.bool p) (.bool q)) Q E s := by
  subst h
  have := RcNeAt.bool_bool (A := A) (s := s) p p
  rw [show (!(p == p)) = false by simp] at this
  exact this prog w E Q z
theorem eq_nil {a b : Addr} {ys : List Value} {n1 n2 : Nat} (N : News h₀ L s.heap news) (m1 : (a, listOf ys.toArray n1) ∈ news) (m2 : (b, listOf #[] n2) ∈ news) (hu : A.units + 64 < cLine) (z : Q (.bool ys.isEmpty) s) : wpAny (model prog w) A (compareOp .Eq (.ref a) (.ref b)) Q E s := by
  cases ys with
  | nil =>
    have := RcAt.lists (A := A) (e := fun _ => true) (lst_in N m1) (lst_in N m2) rfl (by omega) fun j h1 h2 => absurd h2 (by simp)
    exact this prog w E Q z
  | cons y r =>
    have := RcAt.lists_lengths (A := A) (lst_in N m1) (lst_in N m2) (by simp) (by omega)
    exact this prog w E Q z
theorem any2t {k : Int} (h : ([0, 2].any fun x => x == k) = true) : k = 0 ∨ k = 2 := by
  obtain ⟨x, hx, e⟩ := List.any_eq_true.mp h
  simpa only [eq_of_beq e, List.mem_cons, List.not_mem_nil, or_false] using hx
theorem any2f {k : Int} (h : ([0, 2].any fun x => x == k) = false) : ¬ (k = 0 ∨ k = 2) := by
  rintro (rfl | rfl)
  · exact absurd h (by decide)
  · exact absurd h (by decide)
end
theorem band_tt {p q : Bool} (h1 : p = true) (h2 : q = true) : (p && q) = true := by rw [h1, h2]; rfl
theorem band_f1 {p q : Bool} (h1 : p = false) : (p && q) = false := by rw [h1]; rfl
theorem band_f2 {p q : Bool} (h2 : q = false) : (p && q) = false := by rw [h2]; cases p <;> rfl
end
section
open PySem PySem.W PySem.Calls PyProof.Rows PySem.SeqAt
set_option Elab.async false
set_option maxRecDepth 100000
set_option maxHeartbeats 4000000
set_option linter.unusedVariables false
structure Un1 (pk : List (Addr × Obj)) (x : Addr) : Prop where
  is : ∃ d, (x, instObj 194 d) ∈ pk ∧ (d, dictOf [] 0) ∈ pk
section
variable {p : Program} {loose : List Str} {mean : ExcName → Option Value} {mg mb : Str → Option Value}
variable {w : World} {A : Around} {E : Value → Shared → Prop} {s : Shared} {h₀ : Heap} {L : Addr} {m : Str → Option Value} {news pk pl : List (Addr × Obj)} {Q : Value → Shared → Prop} {one other A3 A4 A6 B3 B4 B6 : Addr} {t6 u6 : Tok} {k k' : Int} {v v' : Value}
theorem un_of2 {x : Addr} (N : News h₀ L s.heap news) (sub : ∀ p ∈ pk, p ∈ news) (U : Un1 pk x) : Un s.heap x := by
  obtain ⟨d, a, b⟩ := U.is
  exact ⟨d, (N _ (sub _ a)).1, rfl, rfl, (N _ (sub _ b)).1⟩
theorem pick_sub (P : PickIn pk one other A3 A4 A6 t6) (sub : ∀ p ∈ pk, p ∈ news) : PickIn news one other A3 A4 A6 t6 := ⟨sub _ P.m3, sub _ P.m4, sub _ P.m6⟩
theorem nm_use2 (va : V09 one other A3 A4 A6 k v) (F : Fr h₀ L s.heap m) (X₀ : (KP w).In h₀) (T : Top p loose mean mg mb h₀) (N : News h₀ L s.heap news) (sub : ∀ p ∈ pk, p ∈ news) (P : PickIn pk one other A3 A4 A6 t6) (U : Un1 pk one) (V : Un1 pk other) : Nm w s.heap v (W09 k) :=
  nm09 (X₀.keeps F.keep) (T.keeps F.keep) (un_of2 N sub U) (un_of2 N sub V) (shv_of N (pick_sub P sub) va)
theorem self_use2 (va : V09 one other A3 A4 A6 k v) (F : Fr h₀ L s.heap m) (X₀ : (KP w).In h₀) (N : News h₀ L s.heap news) (P : PickIn pk one other A3 A4 A6 t6) (U : Un1 pk one) (V : Un1 pk other) (sub : ∀ p ∈ pk, p ∈ news) (hu : A.units + 64 < cLine) (q : Q (.bool false) s) : wpAny (model P09 w) A (compareOp .NotEq v v) Q E s :=
  self_ne (X₀.keeps F.keep) (un_of2 N sub U) (un_of2 N sub V) (shv_of N (pick_sub P sub) va) hu P09 w E Q q
theorem isi_use2 (va : V09 one other A3 A4 A6 k v) (F : Fr h₀ L s.heap m) (X₀ : (KP w).In h₀) (N : News h₀ L s.heap news) (P : PickIn pk one other A3 A4 A6 t6) (U : Un1 pk one) (V : Un1 pk other) (sub : ∀ p ∈ pk, p ∈ news) (q : ∀ tk, Q (.bool (isTxt k)) { s with toks := tk }) : wpAny (model P09 w) A (call (.builtin "isinstance") [v, .type "str"]) Q E s :=
  isi_txt (X₀.keeps F.keep) (un_of2 N sub U) (un_of2 N sub V) (shv_of N (pick_sub P sub) va) q
theorem cross_use2 (va : V09 one other A3 A4 A6 k v) (vb : V09 other one B3 B4 B6 k v') (hne : one ≠ other) (F : Fr h₀ L s.heap m) (X₀ : (KP w).In h₀) (N : News h₀ L s.heap news) (P : PickIn pl one other A3 A4 A6 t6) (P' : PickIn pl other one B3 B4 B6 u6) (U : Un1 pl one) (V : Un1 pl other) (sub : ∀ p ∈ pl, p ∈ news) (hu : A.units + 65 < cLine) : EqAt A.in1 s v' v (isTxt k) :=
  cross_eq (X₀.keeps F.keep) (un_of2 N sub U) (un_of2 N sub V) hne (shv_of N (pick_sub P sub) va) (shv_of N (pick_sub P' sub) vb) (by show A.units + 1 + 64 < cLine; omega)
theorem base_of {h : Heap} {x : List (Addr × Obj)} (_ : News h₀ L h x) : ∃ b, b = x := ⟨x, rfl⟩
/-- the ledger, with three entries written out, the rest by what it bears -/
theorem pk_gen {C : Prop} {base : List (Addr × Obj)} {k1 k2 k3 : Addr × Obj} {h : Heap} (va : V09 one other A3 A4 A6 k v) (vb : V09 one other B3 B4 B6 k' v') (N : News h₀ L h news) (hb : ∀ q ∈ base, q ∈ news)
    (P : PickIn news one other A3 A4 A6 t6) (P' : PickIn news one other B3 B4 B6 u6) (U : Un1 news one) (V : Un1 news other) (h1 : k1 ∈ news) (h2 : k2 ∈ news) (h3 : k3 ∈ news)
    (H : ∀ pk, News h₀ L h (k1 :: k2 :: k3 :: pk) → (∀ q ∈ base, q ∈ pk) → PickIn pk one other A3 A4 A6 t6 → PickIn pk one other B3 B4 B6 u6 → Un1 pk one → Un1 pk other → C) : C := by
  refine H news (fun q hq => ?_) hb P P' U V
  rcases List.mem_cons.mp hq with rfl | hq
  · exact N _ h1
  rcases List.mem_cons.mp hq with rfl | hq
  · exact N _ h2
  rcases List.mem_cons.mp hq with rfl | hq
  · exact N _ h3
  · exact N _ hq
theorem un_sub {x : Addr} (U : Un1 pk x) (sub : ∀ p ∈ pk, p ∈ news) : Un1 news x := by
  obtain ⟨d, a, b⟩ := U.is
  exact ⟨d, sub _ a, sub _ b⟩
end
end
section
open PySem.SeqAt
theorem lay12 : True := by
  k_with_none
  k_with "ne" => (with_reducible (first | exact ns1 | exact ns2 | exact qlt (by assumption) | exact qgt (by assumption) | exact qne (by assumption) | exact qen (by assumption) | exact rlt (by assumption) | exact rgt (by assumption) | exact rne (by assumption) | exact ren (by assumption) | exact qlt (And.right (by assumption)) | exact qgt (And.right (by assumption)) | exact qne (And.right (by assumption)) | exact qen (And.right (by assumption)) | exact rlt (And.right (by assumption)) | exact rgt (And.right (by assumption)) | exact rne (And.right (by assumption)) | exact ren (And.right (by assumption)) | exact qlt (And.right (And.right (by assumption))) | exact qgt (And.right (And.right (by assumption))) | exact qne (And.right (And.right (by assumption))) | exact qen (And.right (And.right (by assumption))) | exact rlt (And.right (And.right (by assumption))) | exact rgt (And.right (And.right (by assumption))) | exact rne (And.right (And.right (by assumption))) | exact ren (And.right (And.right (by assumption))) | exact qlt (And.right (And.right (And.right (by assumption)))) | exact qgt (And.right (And.right (And.right (by assumption)))) | exact qne (And.right (And.right (And.right (by assumption)))) | exact qen (And.right (And.right (And.right (by assumption)))) | exact rlt (And.right (And.right (And.right (by assumption)))) | exact rgt (And.right (And.right (And.right (by assumption)))) | exact rne (And.right (And.right (And.right (by assumption)))) | exact ren (And.right (And.right (And.right (by assumption)))) | exact qlt (And.right (And.right (And.right (And.right (by assumption))))) | exact qgt (And.right (And.right (And.right (And.right (by assumption))))) | exact qne (And.right (And.right (And.right (And.right (by assumption))))) | exact qen (And.right (And.right (And.right (And.right (by assumption))))) | exact rlt (And.right (And.right (And.right (And.right (by assumption))))) | exact rgt (And.right (And.right (And.right (And.right (by assumption))))) | exact rne (And.right (And.right (And.right (And.right (by assumption))))) | exact ren (And.right (And.right (And.right (And.right (by assumption))))) | exact qlt (And.right (And.right (And.right (And.right (And.right (by assumption)))))) | exact qgt (And.right (And.right (And.right (And.right (And.right (by assumption)))))) | exact qne (And.right (And.right (And.right (And.right (And.right (by assumption)))))) | exact qen (And.right (And.right (And.right (And.right (And.right (by assumption)))))) | exact rlt (And.right (And.right (And.right (And.right (And.right (by assumption)))))) | exact rgt (And.right (And.right (And.right (And.right (And.right (by assumption)))))) | exact rne (And.right (And.right (And.right (And.right (And.right (by assumption)))))) | exact ren (And.right (And.right (And.right (And.right (And.right (by assumption)))))) | exact qlt (And.right (And.right (And.right (And.right (And.right (And.right (by assumption))))))) | exact qgt (And.right (And.right (And.right (And.right (And.right (And.right (by assumption))))))) | exact qne (And.right (And.right (And.right (And.right (And.right (And.right (by assumption))))))) | exact qen (And.right (And.right (And.right (And.right (And.right (And.right (by assumption))))))) | exact rlt (And.right (And.right (And.right (And.right (And.right (And.right (by assumption))))))) | exact rgt (And.right (And.right (And.right (And.right (And.right (And.right (by assumption))))))) | exact rne (And.right (And.right (And.right (And.right (And.right (And.right (by assumption))))))) | exact ren (And.right (And.right (And.right (And.right (And.right (And.right (by assumption))))))) | exact qlt (And.right (And.right (And.right (And.right (And.right (And.right (And.right (by assumption)))))))) | exact qgt (And.right (And.right (And.right (And.right (And.right (And.right (And.right (by assumption)))))))) | exact qne (And.right (And.right (And.right (And.right (And.right (And.right (And.right (by assumption)))))))) | exact qen (And.right (And.right (And.right (And.right (And.right (And.right (And.right (by assumption)))))))) | exact rlt (And.right (And.right (And.right (And.right (And.right (And.right (And.right (by assumption)))))))) | exact rgt (And.right (And.right (And.right (And.right (And.right (And.right (And.right (by assumption)))))))) | exact rne (And.right (And.right (And.right (And.right (And.right (And.right (And.right (by assumption)))))))) | exact ren (And.right (And.right (And.right (And.right (And.right (And.right (And.right (by assumption)))))))) | exact qlt (And.right (And.right (And.right (And.right (And.right (And.right (And.right (And.right (by assumption))))))))) | exact qgt (And.right (And.right (And.right (And.right (And.right (And.right (And.right (And.right (by assumption))))))))) | exact qne (And.right (And.right (And.right (And.right (And.right (And.right (And.right (And.right (by assumption))))))))) | exact qen (And.right (And.right (And.right (And.right (And.right (And.right (And.right (And.right (by assumption))))))))) | exact rlt (And.right (And.right (And.right (And.right (And.right (And.right (And.right (And.right (by assumption))))))))) | exact rgt (And.right (And.right (And.right (And.right (And.right (And.right (And.right (And.right (by assumption))))))))) | exact rne (And.right (And.right (And.right (And.right (And.right (And.right (And.right (And.right (by assumption))))))))) | exact ren (And.right (And.right (And.right (And.right (And.right (And.right (And.right (And.right (by assumption))))))))) | exact qlt (And.right (And.right (And.right (And.right (And.right (And.right (And.right (And.right (And.right (by assumption)))))))))) | exact qgt (And.right (And.right (And.right (And.right (And.right (And.right (And.right (And.right (And.right (by assumption)))))))))) | exact qne (And.right (And.right (And.right (And.right (And.right (And.right (And.right (And.right (And.right (by assumption)))))))))) | exact qen (And.right (And.right (And.right (And.right (And.right (And.right (And.right (And.right (And.right (by assumption)))))))))) | exact rlt (And.right (And.right (And.right (And.right (And.right (And.right (And.right (And.right (And.right (by assumption)))))))))) | exact rgt (And.right (And.right (And.right (And.right (And.right (And.right (And.right (And.right (And.right (by assumption)))))))))) | exact rne (And.right (And.right (And.right (And.right (And.right (And.right (And.right (And.right (And.right (by assumption)))))))))) | exact ren (And.right (And.right (And.right (And.right (And.right (And.right (And.right (And.right (And.right (by assumption)))))))))) | exact qlt (And.right (And.right (And.right (And.right (And.right (And.right (And.right (And.right (And.right (And.right (by assumption))))))))))) | exact qgt (And.right (And.right (And.right (And.right (And.right (And.right (And.right (And.right (And.right (And.right (by assumption))))))))))) | exact qne (And.right (And.right (And.right (And.right (And.right (And.right (And.right (And.right (And.right (And.right (by assumption))))))))))) | exact qen (And.right (And.right (And.right (And.right (And.right (And.right (And.right (And.right (And.right (And.right (by assumption))))))))))) | exact rlt (And.right (And.right (And.right (And.right (And.right (And.right (And.right (And.right (And.right (And.right (by assumption))))))))))) | exact rgt (And.right (And.right (And.right (And.right (And.right (And.right (And.right (And.right (And.right (And.right (by assumption))))))))))) | exact rne (And.right (And.right (And.right (And.right (And.right (And.right (And.right (And.right (And.right (And.right (by assumption))))))))))) | exact ren (And.right (And.right (And.right (And.right (And.right (And.right (And.right (And.right (And.right (And.right (by assumption))))))))))) | exact qlt (And.right (And.right (And.right (And.right (And.right (And.right (And.right (And.right (And.right (And.right (And.right (by assumption)))))))))))) | exact qgt (And.right (And.right (And.right (And.right (And.right (And.right (And.right (And.right (And.right (And.right (And.right (by assumption)))))))))))) | exact qne (And.right (And.right (And.right (And.right (And.right (And.right (And.right (And.right (And.right (And.right (And.right (by assumption)))))))))))) | exact qen (And.right (And.right (And.right (And.right (And.right (And.right (And.right (And.right (And.right (And.right (And.right (by assumption)))))))))))) | exact rlt (And.right (And.right (And.right (And.right (And.right (And.right (And.right (And.right (And.right (And.right (And.right (by assumption)))))))))))) | exact rgt (And.right (And.right (And.right (And.right (And.right (And.right (And.right (And.right (And.right (And.right (And.right (by assumption)))))))))))) | exact rne (And.right (And.right (And.right (And.right (And.right (And.right (And.right (And.right (And.right (And.right (And.right (by assumption)))))))))))) | exact ren (And.right (And.right (And.right (And.right (And.right (And.right (And.right (And.right (And.right (And.right (And.right (by assumption)))))))))))) | exact qlt (And.right (And.right (And.right (And.right (And.right (And.right (And.right (And.right (And.right (And.right (And.right (And.right (by assumption))))))))))))) | exact qgt (And.right (And.right (And.right (And.right (And.right (And.right (And.right (And.right (And.right (And.right (And.right (And.right (by assumption))))))))))))) | exact qne (And.right (And.right (And.right (And.right (And.right (And.right (And.right (And.right (And.right (And.right (And.right (And.right (by assumption))))))))))))) | exact qen (And.right (And.right (And.right (And.right (And.right (And.right (And.right (And.right (And.right (And.right (And.right (And.right (by assumption))))))))))))) | exact rlt (And.right (And.right (And.right (And.right (And.right (And.right (And.right (And.right (And.right (And.right (And.right (And.right (by assumption))))))))))))) | exact rgt (And.right (And.right (And.right (And.right (And.right (And.right (And.right (And.right (And.right (And.right (And.right (And.right (by assumption))))))))))))) | exact rne (And.right (And.right (And.right (And.right (And.right (And.right (And.right (And.right (And.right (And.right (And.right (And.right (by assumption))))))))))))) | exact ren (And.right (And.right (And.right (And.right (And.right (And.right (And.right (And.right (And.right (And.right (And.right (And.right (by assumption))))))))))))) | exact qlt (And.right (And.right (And.right (And.right (And.right (And.right (And.right (And.right (And.right (And.right (And.right (And.right (And.right (by assumption)))))))))))))) | exact qgt (And.right (And.right (And.right (And.right (And.right (And.right (And.right (And.right (And.right (And.right (And.right (And.right (And.right (by assumption)))))))))))))) | exact qne (And.right (And.right (And.right (And.right (And.right (And.right (And.right (And.right (And.right (And.right (And.right (And.right (And.right (by assumption)))))))))))))) | exact qen (And.right (And.right (And.right (And.right (And.right (And.right (And.right (And.right (And.right (And.right (And.right (And.right (And.right (by assumption)))))))))))))) | exact rlt (And.right (And.right (And.right (And.right (And.right (And.right (And.right (And.right (And.right (And.right (And.right (And.right (And.right (by assumption)))))))))))))) | exact rgt (And.right (And.right (And.right (And.right (And.right (And.right (And.right (And.right (And.right (And.right (And.right (And.right (And.right (by assumption)))))))))))))) | exact rne (And.right (And.right (And.right (And.right (And.right (And.right (And.right (And.right (And.right (And.right (And.right (And.right (And.right (by assumption)))))))))))))) | exact ren (And.right (And.right (And.right (And.right (And.right (And.right (And.right (And.right (And.right (And.right (And.right (And.right (And.right (by assumption)))))))))))))) | exact qlt (And.right (And.right (And.right (And.right (And.right (And.right (And.right (And.right (And.right (And.right (And.right (And.right (And.right (And.right (by assumption))))))))))))))) | exact qgt (And.right (And.right (And.right (And.right (And.right (And.right (And.right (And.right (And.right (And.right (And.right (And.right (And.right (And.right (by assumption))))))))))))))) | exact qne (And.right (And.right (And.right (And.right (And.right (And.right (And.right (And.right (And.right (And.right (And.right (And.right (And.right (And.right (by assumption))))))))))))))) | exact qen (And.right (And.right (And.right (And.right (And.right (And.right (And.right (And.right (And.right (And.right (And.right (And.right (And.right (And.right (by assumption))))))))))))))) | exact rlt (And.right (And.right (And.right (And.right (And.right (And.right (And.right (And.right (And.right (And.right (And.right (And.right (And.right (And.right (by assumption))))))))))))))) | exact rgt (And.right (And.right (And.right (And.right (And.right (And.right (And.right (And.right (And.right (And.right (And.right (And.right (And.right (And.right (by assumption))))))))))))))) | exact rne (And.right (And.right (And.right (And.right (And.right (And.right (And.right (And.right (And.right (And.right (And.right (And.right (And.right (And.right (by assumption))))))))))))))) | exact ren (And.right (And.right (And.right (And.right (And.right (And.right (And.right (And.right (And.right (And.right (And.right (And.right (And.right (And.right (by assumption))))))))))))))) | exact qlt (And.right (And.right (And.right (And.right (And.right (And.right (And.right (And.right (And.right (And.right (And.right (And.right (And.right (And.right (And.right (by assumption)))))))))))))))) | exact qgt (And.right (And.right (And.right (And.right (And.right (And.right (And.right (And.right (And.right (And.right (And.right (And.right (And.right (And.right (And.right (by assumption)))))))))))))))) | exact qne (And.right (And.right (And.right (And.right (And.right (And.right (And.right (And.right (And.right (And.right (And.right (And.right (And.right (And.right (And.right (by assumption)))))))))))))))) | exact qen (And.right (And.right (And.right (And.right (And.right (And.right (And.right (And.right (And.right (And.right (And.right (And.right (And.right (And.right (And.right (by assumption)))))))))))))))) | exact rlt (And.right (And.right (And.right (And.right (And.right (And.right (And.right (And.right (And.right (And.right (And.right (And.right (And.right (And.right (And.right (by assumption)))))))))))))))) | exact rgt (And.right (And.right (And.right (And.right (And.right (And.right (And.right (And.right (And.right (And.right (And.right (And.right (And.right (And.right (And.right (by assumption)))))))))))))))) | exact rne (And.right (And.right (And.right (And.right (And.right (And.right (And.right (And.right (And.right (And.right (And.right (And.right (And.right (And.right (And.right (by assumption)))))))))))))))) | exact ren (And.right (And.right (And.right (And.right (And.right (And.right (And.right (And.right (And.right (And.right (And.right (And.right (And.right (And.right (And.right (by assumption))))))))))))))))))
  trivial
theorem lay13 : True := by
  k_with "mine texts" => ((try dsimp only [← sx0, ← sx1, ← sx2, ← sx3, ← sx4, ← sx5, ← sx6, ← sx7, ← sx8, ← sx9, ← sx10, ← sx11, ← sx12, ← sx13, ← sx14, ← sx15, ← sx16, ← sx17, ← sx18, ← sx19, ← sx20, ← sx21, ← sx22, ← sx23, ← sx24, ← sx25, ← sx26, ← sx27, ← sx28, ← sx29, ← sx30, ← sx31, ← sx32, ← sx33, ← sx34, ← sx35, ← sx36, ← sx37, ← sx38, ← sx39, ← sx40, ← sx41, ← sx42, ← sx43, ← sx44, ← sx45, ← sx46, ← sx47, ← sx48, ← sx49, ← sx50, ← sx51, ← sx52, ← sx53, ← sx54, ← sx55, ← sx56, ← sx57, ← sx58, ← sx59, ← sx60, ← sx61, ← sx62, ← sx63, ← sx64, ← sx65, ← sx66, ← sx67, ← sx68, ← sx69, ← sx70, ← sx71, ← sx72, ← sx73, ← sx74, ← sx75, ← sx76, ← sx77, ← sx78, ← sx79, ← sx80, ← sx81, ← sx82, ← sx83, ← sx84, ← sx85, ← sx86, ← sx87, ← sx88, ← sx89, ← sx90, ← sx91, ← sx92, ← sx93, ← sx94, ← sx95, ← sx96, ← sx97, ← sx98, ← sx99, ← sx100, ← sx101, ← sx102, ← sx103, ← sx104, ← sx105, ← sx106, ← sx107, ← sx108, ← sx109, ← sx110, ← sx111, ← sx112, ← sx113]))
  k_with "mine drop" => (first | (refine' Drop.head ?a; (case a => k_all)) | (refine' Drop.tail ?a ?b; (case a => k_ne); (case b => walk_at "mine drop")))
  k_with "setAttr ref" => ((k_here; k_dflt (first | (refine' exc_set0 ?k1 ?k2 ?k3 ?k4 ?k5 ?k6 ?k7 ?k8 ?k9 ?_; (case k1 => k_asm); (case k2 => k_asm); (case k3 => k_asm); (case k4 => k_mem); (case k5 => k_is); (case k6 => kernel_rfl); (case k7 => k_is); (case k8 => k_is); (case k9 => intro zqd; k_upd); k_whole; intro zqdp zqhp zqFp zqNp zql1; (try k_lt zql1)) | (refine' exc_set_args ?k1 ?k2 ?k3 ?k4 ?k5 ?k6 ?k7 ?k8 ?k9 ?k10 ?_; (case k1 => k_asm); (case k2 => k_asm); (case k3 => k_asm); (case k4 => first | (refine' InstAt.of_exc ?N ?h1 ?h2; (case N => k_asm); (case h1 => k_mem); (case h2 => k_mem)) | (refine' InstAt.of_exc0 ?N ?h1; (case N => k_asm); (case h1 => k_mem))); (case k5 => exact isTup_of (by k_asm) (by k_mem)); (case k6 => k_is); (case k7 => kernel_rfl); (case k8 => k_is); (case k9 => k_is); (case k10 => k_upd); k_whole; intro zqhp zqFp zqNp) | (refine' exc_set ?k1 ?k2 ?k3 ?k4 ?k5 ?k6 ?k7 ?k8 ?k9 ?k10 ?k11 ?k12 ?_; (case k1 => k_asm); (case k2 => k_asm); (case k3 => k_asm); (case k4 => first | (refine' InstAt.of_exc ?N ?h1 ?h2; (case N => k_asm); (case h1 => k_mem); (case h2 => k_mem)) | (refine' InstAt.of_exc0 ?N ?h1; (case N => k_asm); (case h1 => k_mem))); (case k5 => k_is); (case k6 => kernel_rfl); (case k7 => k_is); (case k8 => k_is); (case k9 => k_get); (case k10 => k_put); (case k11 => k_upd); (case k12 => exact Nat.le_of_ble_eq_true rfl); k_whole; intro zqhp zqFp zqNp))))
  k_with "call builtin:Exception.__init__" => ((k_here; k_dflt (refine' exc_init_call ?k1 ?k2 ?k3 ?k4 ?k5 ?k6 ?_; (case k1 => k_asm); (case k2 => k_asm); (case k3 => k_asm); (case k4 => first | (refine' InstAt.of_exc ?N ?h1 ?h2; (case N => k_asm); (case h1 => k_mem); (case h2 => k_mem)) | (refine' InstAt.of_exc0 ?N ?h1; (case N => k_asm); (case h1 => k_mem))); (case k5 => k_is); (case k6 => intro zqt; k_upd); k_whole; intro zqtp zqhp zqFp zqNp zql1; (try k_lt zql1))))
  k_with "call builtin:repr" => ((k_here; k_dflt (refine' repr_use ?k1 ?k2 ?k3 ?k4 ?k5 ?k6 ?k7 ?_; (case k1 => assumption); (case k2 => k_asm); (case k3 => k_asm); (case k4 => exact rfl); (case k5 => exact rfl); (case k6 => exact Nat.le_of_ble_eq_true rfl); (case k7 => exact Nat.le_of_ble_eq_true rfl); k_whole; intro zqhp zqup zqtkp zqFp zqNp)))
  k_with "BackIn" => ((k_dflt (refine' back_ ?k1 ?k2 ?k3 ?_; (case k1 => k_asm); (case k2 => k_asm); (case k3 => walk_at "mine drop"); k_whole; intro zqFp zqNp; (try dsimp only))))
  k_with "call ref" => ((k_here; k_dflt (refine wpAny_call ?_; refine' enter_in ?k1 ?k2 ?k3 ?k4 ?k5 ?k6 ?k7 ?k8 ?kB ?c2 ?c3 ?c4 ?c5 ?_; (case k1 => k_asm); (case k2 => k_asm); (case k3 => k_asm); (case k4 => exact Top.nolimit (by assumption)); (case k5 => k_is); (case k6 => k_is); (case k7 => exact Nat.le_of_ble_eq_true rfl); (case k8 => first | ((with_reducible show BindsTo _ _ ⟨[_], []⟩ _); first | exact BindsTo.of_eq (binds := [(_, _)]) rfl | exact binds_K (binds := [(_, _)]) (by k_in) rfl (by k_is) rfl rfl rfl) | ((with_reducible show BindsTo _ _ ⟨[_, _], []⟩ _); first | exact BindsTo.of_eq (binds := [(_, _), (_, _)]) rfl | exact binds_K (binds := [(_, _), (_, _)]) (by k_in) rfl (by k_is) rfl rfl rfl) | ((with_reducible show BindsTo _ _ ⟨[_, _, _], []⟩ _); first | exact BindsTo.of_eq (binds := [(_, _), (_, _), (_, _)]) rfl | exact binds_K (binds := [(_, _), (_, _), (_, _)]) (by k_in) rfl (by k_is) rfl rfl rfl) | ((with_reducible show BindsTo _ _ ⟨[_, _, _, _], []⟩ _); first | exact BindsTo.of_eq (binds := [(_, _), (_, _), (_, _), (_, _)]) rfl | exact binds_K (binds := [(_, _), (_, _), (_, _), (_, _)]) (by k_in) rfl (by k_is) rfl rfl rfl) | ((with_reducible show BindsTo _ _ ⟨[_, _, _, _, _], []⟩ _); first | exact BindsTo.of_eq (binds := [(_, _), (_, _), (_, _), (_, _), (_, _)]) rfl | exact binds_K (binds := [(_, _), (_, _), (_, _), (_, _), (_, _)]) (by k_in) rfl (by k_is) rfl rfl rfl)); (case c5 => decide); (case kB => exact locs rfl); (case c2 => exact rfl); (case c3 => exact rfl); (case c4 => exact rfl); k_whole; intro zqoLp zqLp zqhp zqtkp zqFp zqNp zql1 zqn1; (try k_lt zql1); (try (replace zqn1 := allNe_of zqn1; simp only [AllNe, and_true] at zqn1)); (try dsimp only); walk_at "mine texts")))
  k_with "call builtin:str.join" => ((k_here; (with_reducible show wpAny _ _ (call (Value.builtin "str.join") [Value.str _ _, Value.ref _]) _ _ _); k_dflt (refine join_listC (by is_list) (by repeat constructor) (by decide) (by (simp only [List.map_cons, List.map_nil, List.sum_cons, List.sum_nil, List.length_cons, List.length_nil]; omega)) ?_); intro zqtp zqkp))
  k_with "getMethod type:Exception" => ((k_here; refine' method_type ?F ?X ?m (by decide +kernel) ?e ?h ?_; (case F => k_asm); (case X => k_asm); (case m => exact meta_Exception); (case e => k_dflt k_is); (case h => k_handed)))
  k_with "compareOp IsNot" => ((k_here; k_dflt (refine isNot_none (by assumption) ?_)))
  k_with "call builtin:str.format" => ((k_here; k_dflt (refine' line_use ?k1 ?k2 ?k3 ?k4 ?k5 ?k6 ?k7 ?_; (case k1 => assumption); (case k2 => k_asm); (case k3 => k_asm); (case k4 => exact rfl); (case k5 => exact rfl); (case k6 => exact Nat.le_of_ble_eq_true rfl); (case k7 => exact Nat.le_of_ble_eq_true rfl); k_whole; intro zqhp zqup zqtkp zqFp zqNp)))
  k_with "call builtin:str.format" => ((k_here; (with_reducible show wpAny _ _ (call (Value.builtin "str.format") [Value.str _ _, _, _, _, _]) _ _ _); k_dflt (refine' fmt_use ?k1 ?k2 ?k3 ?k4 ?k5 ?_; (case k1 => k_asm); (case k2 => k_asm); (case k3 => exact ⟨rfl, rfl, Nat.le_of_ble_eq_true rfl, Nat.le_of_ble_eq_true rfl⟩); (case k4 => exact args_5 _ _ _ _ _); (case k5 => walk_at "mine fmt")); k_whole; intro zqhp zqup zqtkp zqFp zqNp))
  k_with "pyReprObj" => ((k_here; k_dflt (refine' reprObj_use ?k1 ?k2 ?k3 ?k4 ?k5 ?k6 ?k7 ?_; (case k1 => assumption); (case k2 => k_asm); (case k3 => k_asm); (case k4 => exact rfl); (case k5 => exact rfl); (case k6 => exact Nat.le_of_ble_eq_true rfl); (case k7 => exact Nat.le_of_ble_eq_true rfl); k_whole; intro zqhp zqup zqtkp zqFp zqNp)))
  trivial
theorem joinL_ {M : Model} {A : Around} {E : Value → Shared → Prop} {s : Shared} {h₀ : Heap} {Q : Flow → Shared → Prop} {L : Addr} {m : Str → Option Value} {news : List (Addr × Obj)} {t : Sem Flow} (y : Str) (b : Bool) (F : Fr h₀ L s.heap m) (N : News h₀ L s.heap news)
    (h1 : ∀ Q' : Flow → Shared → Prop, (∀ h' tk (a : Addr) (ys : List Value) (n : Nat) news', ys.isEmpty = b → Fr h₀ L h' (fun z => if z = y then some (.ref a) else m z) → News h₀ L h' news' → (a, listOf ys.toArray n) ∈ news' → (∀ q ∈ news, q ∈ news') → Q' .next { s with heap := h', toks := tk }) → wpAny M A t Q' E s)
    (h2 : ∀ h' tk (a : Addr) (ys : List Value) (n : Nat), ys.isEmpty = b → Fr h₀ L h' (fun z => if z = y then some (.ref a) else m z) → News h₀ L h' ((a, listOf ys.toArray n) :: news) → Q .next { s with heap := h', toks := tk }) : wpAny M A t Q E s :=
  h1 Q fun h' tk a ys n news' e f N' hm hs => h2 h' tk a ys n e f fun q hq => N' q (by rcases List.mem_cons.mp hq with rfl | hq; exact hm; exact hs q hq)
def In09 : Prop := True
def Gen09 : Prop := True
theorem lay14 : True := by
  k_with "exec Assign cons List" => (((with_reducible show wpAny _ _ (exec (Stmt.Assign [Expr.Name _ _] (Expr.List _ _) _) _) _ _ _); (fail_if_success (with_reducible rename In09 => hin)); (fail_if_success (with_reducible rename Gen09 => hgen)); (with_reducible refine stop_ ?_)))
  trivial
def Go09 : Prop := True
theorem lay15 : True := by
  k_with "exec For Name BinOp cons nil" => ((k_here; (rename Fr _ _ _ _ => lF'); (with_unfolding_all refine' For_invVF lF' ?k1 ?k2 ?_; (case k1 => exact rfl); (case k2 => exact rfl); k_whole)))
  k_with "pyIter ref" => (((fail_if_success (with_reducible rename Go09 => hgo)); (with_reducible refine stop_ ?_)))
  k_with "CompSrc" => ((k_here; k_dflt (refine LCg.CompSrc.ledger (by rfl) (by k_asm) (by k_asm) (by k_mem) (by first | size_fits | exact Nat.le_of_ble_eq_true rfl) ?_; intro zqgp; lcg_lit)))
  k_with "CompRest" => ((with_unfolding_all first | (refine LCg.CompRest.succ ?_; intro zqvp zqIp zqoIp zqCp zqoCp zqDp zqmp zqhp zqtkp zqEp zqhvp zqhCp zqhxp zqFp zqNp zqoffp zqnep; (first | lcg_open zqhvp | (obtain ⟨t9', hv9'⟩ := zqhvp; subst hv9'))) | refine LCg.CompRest.zero ?_))
  k_with "CompRestT" => ((with_unfolding_all first | (refine LCt.CompRestT.succ ?_; intro zqvp zqIp zqoIp zqCp zqoCp zqDp zqmp zqhp zqtkp zqEp zqhvp zqhCp zqhxp zqFp zqNp zqoffp zqnep; (first | lcg_open zqhvp | (obtain ⟨t9', hv9'⟩ := zqhvp; subst hv9'))) | refine LCt.CompRestT.zero ?_))
  k_with "CompEnd" => (first | (refine comp_end3 (by assumption) (by assumption) (by assumption) (by assumption) (by assumption) (by assumption) (by lcg_src) ?_) | (refine comp_end0 (by assumption) (by assumption) (by assumption) (by lcg_src) ?_))
  k_with "call ref" => ((k_here; (with_reducible show wpAny _ _ (call (Value.ref 205) [Value.int _ _, Value.ref _, Value.ref _]) _ _ _); k_dflt (refine' val_use (fun Q E hQ => val09 _ _ _ _ _ _ Q E (by k_in) (Top.keeps (by assumption) (Fr.keep (by k_asm))) hQ) ?k1 ?k2 ?k3 ?k4 ?k5 ?k6 ?_; (case k1 => k_asm); (case k2 => k_asm); (case k3 => exact rfl); (case k4 => exact rfl); (case k5 => exact Nat.le_of_ble_eq_true rfl); (case k6 => exact Nat.le_of_ble_eq_true rfl); k_whole; intro zqhp zqtkp zqvp zqA3p zqA4p zqA6p zqt6p zqFp zqNp zqn3p zqn4p zqn6p zqvvp)))
  k_with "call ref" => (((with_reducible show wpAny _ _ (call (Value.ref 217) _) _ _ _); (with_reducible refine stop_ ?_)))
  k_with "call type:str" => ((k_here; (with_reducible show wpAny _ _ (call (Value.type "str") [Value.ref _]) _ _ _); k_dflt (refine' str_led ?k1 ?k2 ?k3 ?k4 ?k5 ?k6 ?k7 ?k8 ?k9 ?ka ?kb ?kc ?_; (case k1 => k_asm); (case k2 => k_asm); (case k3 => assumption); (case k4 => k_asm); (case k5 => k_mem); (case k6 => k_mem); (case k7 => assumption); (case k8 => assumption); (case k9 => assumption); (case ka => exact rfl); (case kb => exact Nat.le_of_ble_eq_true rfl); (case kc => exact Nat.le_of_ble_eq_true rfl); k_whole; intro zqhp zqup zqtkp zqFp zqNp)))
  k_with "call builtin:repr" => ((k_here; (with_reducible show wpAny _ _ (call (Value.builtin "repr") [Value.ref _]) _ _ _); k_dflt (refine' repr_led ?k1 ?k2 ?k3 ?k4 ?k5 ?k6 ?k7 ?k8 ?k9 ?kl ?ka ?kg ?kb ?kc ?_; (case k1 => k_asm); (case k2 => k_asm); (case k3 => assumption); (case k4 => k_asm); (case k5 => k_mem); (case k6 => k_mem); (case k7 => assumption); (case k8 => assumption); (case k9 => assumption); (case kl => assumption); (case ka => exact rfl); (case kg => exact rfl); (case kb => exact Nat.le_of_ble_eq_true rfl); (case kc => exact Nat.le_of_ble_eq_true rfl); k_whole; intro zqhp zqup zqtkp zqFp zqNp)))
  k_with "getAttr ref" => ((k_here; k_dflt (first | ((with_reducible show wpAny _ _ (getAttr _ (PySem.Str.ofString "args") _) _ _ _); refine' args_led (f := 36) ?k1 ?k2 ?k3 ?k4 ?k5 ?k6 ?_; (case k1 => k_asm); (case k2 => k_asm); (case k3 => k_asm); (case k4 => k_mem); (case k5 => k_mem); (case k6 => assumption)) | (refine' gets_led (f := 36) ?k1 ?k2 ?k3 ?k4 ?k5 ?k6 ?k7 ?k8 ?k9 ?_; (case k1 => k_asm); (case k2 => k_asm); (case k3 => k_asm); (case k4 => k_mem); (case k5 => k_mem); (case k6 => assumption); (case k8 => assumption); (case k7 => assumption); (case k9 => first | assumption | exact rfl)))))
  k_with "compareOp NotEq ref ref" => ((k_here; k_dflt (first | (refine' args_ne ?k1 ?k2 ?k3 ?k4 ?k5 ?k6 ?_; (case k1 => k_asm); (case k2 => k_mem); (case k3 => k_mem); (case k4 => assumption); (case k5 => assumption); (case k6 => ke_room)) | (refine' txt3_ne ?k1 ?k2 ?k3 ?k4 ?_; (case k1 => k_asm); (case k2 => k_mem); (case k3 => k_mem); (case k4 => ke_room)) | (refine' two_ne ?k1 ?k2 ?k3 ?k4 ?k5 ?k6 ?_; (case k1 => k_asm); (case k2 => k_mem); (case k3 => k_mem); (case k4 => exact EqAt.same _); (case k5 => exact int_eqAt); (case k6 => ke_room)) | (with_reducible refine stop_ ?_))))
  k_with "compareOp NotEq" => ((k_here; k_dflt (refine' self_use2 ?kv ?k1 ?k2 ?k3 ?kP ?kU ?kV ?ks ?kb ?_; (case kv => assumption); (case kP => assumption); (case k1 => k_asm); (case k2 => k_asm); (case k3 => k_asm); (case kU => assumption); (case kV => assumption); (case ks => intro zqq zqhq; repeat (first | exact zqhq | apply List.mem_cons_of_mem)); (case kb => ke_room))))
  k_with "binaryOp Mult ref int" => ((k_here; k_dflt (refine' mul3 ?k1 ?k2 ?k3 ?_; (case k1 => k_asm); (case k2 => k_asm); (case k3 => k_mem); k_whole; intro zqDp zqhp zqFp zqNp)))
  k_with "compareOp NotEq int int" => ((k_here; with_reducible refine ne_int_same ?_))
  k_with "compareOp NotEq str str" => ((k_here; with_reducible refine ne_str_same ?_))
  k_with "call builtin:isinstance" => ((k_here; (with_reducible show wpAny _ _ (call (Value.builtin "isinstance") [_, Value.type "str"]) _ _ _); k_dflt (refine' isi_use2 ?kv ?k1 ?k2 ?k3 ?kP ?kU ?kV ?ks ?_; (case kv => assumption); (case kP => assumption); (case k1 => k_asm); (case k2 => k_asm); (case k3 => k_asm); (case kU => assumption); (case kV => assumption); (case ks => intro zqq zqhq; repeat (first | exact zqhq | apply List.mem_cons_of_mem)); k_whole; intro zqtkp)))
  k_with "compareOp Eq ref ref" => ((k_here; k_dflt (first | (refine' eq_nil ?k1 ?k2 ?k3 ?k4 ?_; (case k1 => k_asm); (case k2 => k_mem); (case k3 => k_mem); (case k4 => ke_room)) | (with_reducible refine stop_ ?_))))
  k_with "compareOp NotEq bool bool" => ((with_reducible refine stop_ ?_))
  k_with "exec If" => (((with_reducible show wpAny _ _ (exec (Stmt.If (Expr.BoolOp _ _ _) _ _ _) _) _ _ _); (fail_if_success (with_reducible rename In09 => hin)); (with_reducible refine stop_ ?_)))
  k_with "exec Assign cons ListComp" => (((with_reducible show wpAny _ _ (exec (Stmt.Assign [Expr.Name _ _] (Expr.ListComp _ _ _ _) _) _) _ _ _); (fail_if_success (with_reducible rename In09 => hin)); (with_reducible refine stop_ ?_)))
  k_with "execs cons" => (((with_reducible show wpAny _ _ _ _ _ (Shared.mk _ _ _ (_ + 1) _)); (with_reducible rename G3 _ _ _ => hG); (with_reducible refine (tok_gen hG ?_ :)); intro zqtkz))
  trivial
def stored09 : List Str := [Str.ofString "x", Str.ofString "rest", Str.ofString "kind", Str.ofString "picks", Str.ofString "a", Str.ofString "b", Str.ofString "err", Str.ofString "due", Str.ofString "args", Str.ofString "again", Str.ofString "borne"]
theorem foo : PySem.Challenge.rw_dm0028_09.Holds := by
  w_top off
  refine hz (by
    w_strict (
    k_fill
    intro w s₀ s₁ mg mb G y fa o pm cd doc dV kV ho hd hcd hD hmg hg args vals as L hpre hlay hrd hwl hlo
    have KX : (hz.heap_188 w.params).In _ := InK.keeps _ _ _ (z_facts (fun _ => by kernel_rfl) y).2.1 (Laid.keeps L)
    clear y
    k_behind G ho hd hcd hD hmg hpre hlay hrd hwl hlo cd
    (all_goals try k_fold)
    k_steps
    unfold Stop
    with_reducible rename IntsAre _ ([0] ++ _) => hI
    with_reducible rename Fr _ _ _ _ => lF
    with_reducible rename News _ _ _ _ => lN
    refine loopK stored09 rfl hI lF lN ?zturn ?zdone
    case zdone =>
      intro m' hh tkk FF
      clear lF lN
      k_steps
    case zturn =>
      intro pre post n t u hh tkk own eN nN FF NN
      dsimp only
      generalize s₁.gens = sg
      generalize s₁.drawn = sd
      generalize s₁.os = so
      have hG3 : G3 sg sd so := trivial
      obtain ⟨base, hbase⟩ := base_of NN
      refine post_gen ?_
      intro Qt hQt
      clear lF lN
      have hgo : Go09 := trivial
      k_steps
      unfold Stop
      have hk0 : 0 ≤ (if n < 0 then -n else n).fmod 7 := Int.fmod_nonneg_of_pos _ (by decide)
      have hk6 : (if n < 0 then -n else n).fmod 7 < 7 := Int.fmod_lt_of_pos _ (by decide)
      generalize (if n < 0 then -n else n).fmod 7 = kq at *
      generalize (if n < 0 then -n else n).fdiv 7 = rq at *
      have hgen : Gen09 := trivial
      with_reducible show wpAny _ _ _ _ _ _
      k_steps
      unfold Stop
      with_reducible rename V09 _ _ _ _ _ (Int.fmod (Int.fmod _ _) _) _ => va
      with_reducible rename V09 _ _ _ _ _ (Int.fmod (_ + _) _) _ => vb
      with_reducible rename Fr _ _ _ _ => F1
      with_reducible rename News _ _ _ _ => N1
      refine pk_gen (base := base) va vb N1 (fun q hq => by rw [hbase] at hq; repeat (first | exact hq | apply List.mem_cons_of_mem)) ⟨by k_mem, by k_mem, by k_mem⟩ ⟨by k_mem, by k_mem, by k_mem⟩ ⟨_, by k_mem, by k_mem⟩ ⟨_, by k_mem, by k_mem⟩ (by k_mem : (_, listOf #[Value.int (Int.fmod rq 7) _, Value.int _ _] 0) ∈ _) (by k_mem : (s₁.heap.objs.size + 1 + 1, _) ∈ _) (by k_mem : (s₁.heap.objs.size + 1, _) ∈ _) ?_
      clear N1
      intro pk N1 hsb1 PA PB U1 U2
      have hl0 : 10 ≤ 10 + (rq).fmod 90 := by
        have := Int.fmod_nonneg_of_pos (rq) (b := 90) (by decide)
        omega
      have hl1 : 10 + (rq).fmod 90 ≤ 99 := by
        have := Int.fmod_lt_of_pos (rq) (b := 90) (by decide)
        omega
      refine made_use (fun Q E hQ => made09 _ _ _ _ hk0 hk6 _ _ _ _ (nm_use2 va F1 (by assumption) (by assumption) N1 (fun q hq => by repeat (first | exact hq | apply List.mem_cons_of_mem)) PA U1 U2) (nm_use2 vb F1 (by assumption) (by assumption) N1 (fun q hq => by repeat (first | exact hq | apply List.mem_cons_of_mem)) PB U1 U2) _ _ hl0 hl1 (lines09 hl0 hl1) Q E (Frag.In.keeps (by assumption) F1.keep) (Top.keeps (by assumption) F1.keep) hQ) F1 N1 rfl rfl (Nat.le_of_ble_eq_true rfl) (Nat.le_of_ble_eq_true rfl) ?_
      clear F1 N1
      intro h1 tk1 l1 e1 d1 tA1 t21 C1 od1 fs1 xs1 ys1 u1 um1 n1 F1 N1 _ _ _ _ _ mc
      obtain ⟨_, _, mc⟩ := mc
      have hm1 := mc.hm
      have hC1 := mc.hC
      have hM1 := mc.hM
      have hlen1 := mc.hlen
      have hx1 := mc.hx
      have hy1 := mc.hy
      have hs1 := mc.hf _ mc.hfa.1
      have hn1 := (mc.hn _ mc.hfa.1).1
      have hh1 := (mc.hn _ mc.hfa.1).2
      dsimp only at hs1 hn1 hh1
      dsimp only
      k_steps
      unfold Stop
      with_reducible rename Fr _ _ _ _ => F1
      with_reducible rename News _ _ _ _ => N1
      refine joinQ_ F1 N1 ?ja ?jb
      case ja =>
        intro Qj hQj
        have hin : In09 := trivial
        k_steps
        (with_reducible rename Fr _ _ _ _ => F2)
        (with_reducible rename News _ _ _ _ => N2)
        exact hQj _ _ F2 (fun q hq => N2 q <| by repeat (first | exact hq | apply List.mem_cons_of_mem))
      clear F1 N1
      intro h2 tk2 F1 N1
      dsimp only
      k_steps
      unfold Stop
      with_reducible rename Fr _ _ _ _ => F1
      with_reducible rename News _ _ _ _ => N1
      refine joinQ_ F1 N1 ?jc ?jd
      case jc =>
        intro Qj hQj
        have hin : In09 := trivial
        k_steps
        · (rename ((_ : Int) = 3) => hk3)
          have hsA := mc.hf _ (mc.hfa.2.1 hk3)
          have hnA := mc.hn _ (mc.hfa.2.1 hk3)
          have hnA1 := hnA.1
          have hnA2 := hnA.2
          obtain ⟨tz, hmz⟩ := mc.hfa.2.2.1 (.inr hk3)
          have hsB := mc.hf _ hmz
          have hnB := (mc.hn _ hmz).1
          dsimp only at hsA hnA1 hnA2 hsB hnB
          obtain ⟨ty, hyz⟩ := args3 hk3 mc.hy
          subst hyz
          k_steps
          all_goals (
            (with_reducible rename Fr _ _ _ _ => F2)
            (with_reducible rename News _ _ _ _ => N2)
            exact hQj _ _ F2 (fun q hq => N2 q <| by repeat (first | exact hq | apply List.mem_cons_of_mem)))
        · (rename ((_ : Int) = 2) => hk2)
          obtain ⟨tz, hmz⟩ := mc.hfa.2.2.1 (.inl hk2)
          have hsB := mc.hf _ hmz
          have hnB := (mc.hn _ hmz).1
          dsimp only at hsB hnB
          obtain ⟨ty, hyz⟩ := args2 hk2 mc.hy
          subst hyz
          k_steps
          all_goals (
            (with_reducible rename Fr _ _ _ _ => F2)
            (with_reducible rename News _ _ _ _ => N2)
            exact hQj _ _ F2 (fun q hq => N2 q <| by repeat (first | exact hq | apply List.mem_cons_of_mem)))
        · exact hQj _ _ F1 (fun q hq => N1 q <| hq)
      clear F1 N1
      intro h3 tk3 F1 N1
      dsimp only
      k_steps
      unfold Stop
      with_reducible rename Fr _ _ _ _ => F1
      with_reducible rename News _ _ _ _ => N1
      refine joinQ_ F1 N1 ?je ?jf
      case je =>
        intro Qj hQj
        have hin : In09 := trivial
        k_steps
        · (rename (List.any [1, 4, 5, 6] _ = true) => hka)
          have hkb := any4 hka
          have hsA := mc.hf _ (mc.hfa.2.2.2.1 hkb)
          have hnA := mc.hn _ (mc.hfa.2.2.2.1 hkb)
          have hnA1 := hnA.1
          have hnA2 := hnA.2
          dsimp only at hsA hnA1 hnA2
          by_cases h5 : kq = 5
          · obtain ⟨tz, hmz⟩ := mc.hfa.2.2.2.2 h5
            have hsB := mc.hf _ hmz
            have hnB := (mc.hn _ hmz).1
            dsimp only at hsB hnB
            k_steps
            all_goals (
              (with_reducible rename Fr _ _ _ _ => F2)
              (with_reducible rename News _ _ _ _ => N2)
              exact hQj _ _ F2 (fun q hq => N2 q <| by repeat (first | exact hq | apply List.mem_cons_of_mem)))
          · k_steps
            all_goals first | (exfalso; omega) | (
              (with_reducible rename Fr _ _ _ _ => F2)
              (with_reducible rename News _ _ _ _ => N2)
              exact hQj _ _ F2 (fun q hq => N2 q <| by repeat (first | exact hq | apply List.mem_cons_of_mem)))
        · exact (any5 (by assumption) (by assumption)).elim
        · (with_reducible rename Fr _ _ _ _ => F2)
          (with_reducible rename News _ _ _ _ => N2)
          exact hQj _ _ F2 (fun q hq => N2 q <| by repeat (first | exact hq | apply List.mem_cons_of_mem))
      clear F1 N1
      intro h4 tk4 F1 N1
      dsimp only
      k_steps
      unfold Stop
      with_reducible rename V09 _ _ _ _ _ (Int.fmod (Int.fmod _ _) _) _ => wa
      with_reducible rename V09 _ _ _ _ _ (Int.fmod (_ + _) _) _ => wb
      have hne := ne_of va wa (by omega)
      with_reducible rename Fr _ _ _ _ => F1
      with_reducible rename News _ _ _ _ => N1
      refine pk_gen (base := pk) wa wb N1 (fun q hq => by repeat (first | exact hq | apply List.mem_cons_of_mem)) ⟨by k_mem, by k_mem, by k_mem⟩ ⟨by k_mem, by k_mem, by k_mem⟩ (un_sub U2 (fun q hq => by repeat (first | exact hq | apply List.mem_cons_of_mem))) (un_sub U1 (fun q hq => by repeat (first | exact hq | apply List.mem_cons_of_mem))) (by k_mem : (e1, _) ∈ _) (by k_mem : (d1, _) ∈ _) (by k_mem : (tA1, _) ∈ _) ?_
      clear N1
      intro pl N1 hs2 PC PD V1 V2
      refine made_use (fun Q E hQ => made09 _ _ _ _ hk0 hk6 _ _ _ _ (nm_use2 wa F1 (by assumption) (by assumption) N1 (fun q hq => by repeat (first | exact hq | apply List.mem_cons_of_mem)) PC V1 V2) (nm_use2 wb F1 (by assumption) (by assumption) N1 (fun q hq => by repeat (first | exact hq | apply List.mem_cons_of_mem)) PD V1 V2) _ _ hl0 hl1 (lines09 hl0 hl1) Q E (Frag.In.keeps (by assumption) F1.keep) (Top.keeps (by assumption) F1.keep) hQ) F1 N1 rfl rfl (Nat.le_of_ble_eq_true rfl) (Nat.le_of_ble_eq_true rfl) ?_
      clear F1 N1
      intro h5 tk5 l2 e2 d2 tA2 t22 C2 od2 fs2 xs2 ys2 u2 um2 n2 F1 N1 _ _ _ _ _ md
      obtain ⟨_, _, md⟩ := md
      have hm2 := md.hm
      have hC2 := md.hC
      have hM2 := md.hM
      dsimp only
      k_steps
      unfold Stop
      with_reducible rename Fr _ _ _ _ => F1
      with_reducible rename News _ _ _ _ => N1
      refine joinL_ (Str.ofString "borne") (bothTxt kq ((rq.fmod 7).fmod 7) ((rq.fdiv 7 + 1).fmod 7)) F1 N1 ?jg ?jh
      case jg =>
        intro Qj hQj
        have hin : In09 := trivial
        with_reducible show wpAny _ _ _ _ _ _
        k_steps
        all_goals (
          with_reducible rename Fr _ _ _ _ => F3
          with_reducible rename News _ _ _ _ => N3
          refine hQj _ _ _ _ _ _ ?_ F3 N3 (by k_mem) (fun q hq => by repeat (first | exact hq | apply List.mem_cons_of_mem))
          unfold bothTxt
          first | rw [if_pos (any2t (by assumption))] | rw [if_neg (any2f (by assumption))]
          first
            | exact Eq.symm (by assumption : isTxt _ = true)
            | exact Eq.symm (by assumption : isTxt _ = false)
            | exact Eq.symm (band_tt (by assumption) (by assumption))
            | exact Eq.symm (band_f1 (by assumption))
            | exact Eq.symm (band_f2 (by assumption)))
      clear F1 N1
      intro h6 tk6 bA ys bn hbn F1 N1
      dsimp only
      k_steps
      unfold Stop
      with_reducible rename Fr _ _ _ _ => F1
      with_reducible rename News _ _ _ _ => N1
      refine joinQ_ F1 N1 ?ji ?jk
      case ji =>
        intro Qj hQj
        have hin : In09 := trivial
        k_steps
        unfold Stop
        with_reducible rename Fr _ _ _ _ => F2
        with_reducible rename News _ _ _ _ => N2
        refine args_eq N2 (by k_mem) (by k_mem) md.hx mc.hx (cross_use2 va wa hne F2 (by assumption) N2 (pick_sub PA hs2) PC V2 V1 (fun q hq => by repeat (first | exact hq | apply List.mem_cons_of_mem)) (by ke_room)) (cross_use2 vb wb hne F2 (by assumption) N2 (pick_sub PB hs2) PD V2 V1 (fun q hq => by repeat (first | exact hq | apply List.mem_cons_of_mem)) (by ke_room)) (by ke_room) ?_
        k_steps
        unfold Stop
        refine ne_bool_same hbn.symm ?_
        k_steps
        with_reducible rename Fr _ _ _ _ => F3
        with_reducible rename News _ _ _ _ => N3
        exact hQj _ _ F3 (fun q hq => N3 q <| by repeat (first | exact hq | apply List.mem_cons_of_mem))
      clear F1 N1
      intro h7 tk7 F1 N1
      dsimp only
      k_steps
      with_reducible rename Fr _ _ _ _ => F1
      with_reducible rename News _ _ _ _ => N1
      refine hQt _ _ (turnK_end (Q := fun _ _ => True) F1 N1 (fun q hq => by
        have hq2 := hs2 q (hsb1 q (hbase ▸ hq))
        repeat (first | exact hq2 | apply List.mem_cons_of_mem)) (fun z zx zs => by
        have hns : z ∉ stored09 := by
          intro h
          rw [List.contains_iff_mem.mpr h] at zs
          cases zs
        simp only [stored09, List.mem_cons, List.not_mem_nil, or_false, not_or] at hns
        obtain ⟨y1, y2, y3, y4, y5, y6, y7, y8, y9, y10, y11⟩ := hns
        simp only [if_neg zx, if_neg y1, if_neg y2, if_neg y3, if_neg y4, if_neg y5, if_neg y6, if_neg y7, if_neg y8, if_neg y9, if_neg y10, if_neg y11, zs]
        rfl))
))
end
end Mine
end
theorem PySem.Challenge.cw_dm0028_09_holds : PySem.Challenge.rw_dm0028_09.Holds :=
  Mine.foo
