import PyProof.Rows.All
import Wide.All
import OpenK.AllK
import Wide.FinOn
import PySem.Challenge.RW_gr5037_01
set_option Elab.async false

-- Hd
section
open PySem PySem.W PyProof.Rows
set_option maxRecDepth 100000
set_option maxHeartbeats 8000000
namespace Mine
open_top hd for PySem.Challenge.rw_gr5037_01
end Mine
end

-- E1
section
open PySem PySem.W PySem.Calls PyProof.Rows
set_option maxRecDepth 100000
set_option maxHeartbeats 4000000
namespace Mine

abbrev excObj (C t : Addr) : Obj := { cls := .ref C, data := .fields #[.ref t, .none, .none, .none, .bool false, .none] }
abbrev tupObj (vs : List Value) : Obj := { cls := .type "tuple", data := .seq vs.toArray }

def excIn (K : Frag) (C : Addr) : Bool := match K.lookup C with
  | some ⟨_, _, .cls cd, sl⟩ => !cd.abstract && !cd.hasDel && (sl.toList[4]?).join == some (.builtin "Exception.__new__") && !cd.mro.isEmpty && cd.mro.contains (.ref C) && cd.mro.contains (.type "Exception") &&
      !cd.mro.contains (.type "AttributeError") && !cd.mro.contains (.type "NameError") &&
      specialIn K (.ref C) "__call__" == some (some (.builtin "type.__call__")) && instIn K (.ref C) (.type "type") == some true
  | _ => false

structure ExcC (M : Model) (h : Heap) (C : Addr) : Prop where
  obj : ∃ oc od cd sl, h.get? C = some ⟨oc, od, .cls cd, sl⟩ ∧ cd.abstract = false ∧ cd.hasDel = false ∧ cd.mro.isEmpty = false
  made : Looks M h (Bind.madeBy (.ref C)) (some "Exception.__new__")
  base : Looks M h (Bind.staticBase (.ref C)) (.ref C)
  self : Looks M h (isSubtype (.ref C) (.ref C)) true
  exc : Looks M h (isSubtype (.ref C) (.type "Exception")) true
  noA : Looks M h (isSubtype (.ref C) (.type "AttributeError")) false
  noN : Looks M h (isSubtype (.ref C) (.type "NameError")) false
  call : Looks M h (specialOf (.ref C) "__call__") (some (.builtin "type.__call__"))
  typ : Looks M h (isInstance (.ref C) (.type "type")) true

theorem exc_of {K : Frag} {M : Model} {h : Heap} (X : K.In h) {C : Addr} (e : excIn K C = true) : ExcC M h C := by
  unfold excIn at e
  split at e
  · rename_i oc od cd sl ho
    simp only [Bool.and_eq_true, Bool.not_eq_true', beq_iff_eq] at e
    obtain ⟨⟨⟨⟨⟨⟨⟨⟨⟨e1, e2⟩, e3⟩, e4⟩, e5⟩, e6⟩, ea⟩, en⟩, e7⟩, e8⟩ := e
    have hc : clsIn K C = some cd := by unfold clsIn; rw [ho]
    have hm : Looks M h (mroOf (.ref C)) cd.mro := (looks_clsIn X hc).andThen .now
    obtain ⟨c, l, hl⟩ : ∃ c l, cd.mro = c :: l := by cases q : cd.mro with | nil => rw [q] at e4; cases e4 | cons c l => exact ⟨c, l, rfl⟩
    have made : Looks M h (Bind.madeBy (.ref C)) (some "Exception.__new__") := by
      intro A Q E s k q
      unfold Bind.madeBy
      refine wpAny_bind (hm A _ E s k ?_)
      rw [hl, List.forIn_cons]
      refine wpAny_bind (wpAny_bind (wpAny_bind (wpAny_bind (wpAny_loadPart (k _ _ (X _ _ ho)) (wpAny_pure ?_)))))
      dsimp only
      rw [← Array.getElem?_toList, e3]
      exact wpAny_pure (wpAny_pure (wpAny_pure q))
    have sub : ∀ b r, cd.mro.contains b = r → Looks M h (isSubtype (.ref C) b) r := fun b r q => looks_mroIn X (by unfold mroIn; rw [hc, Option.bind_some, if_neg (by rw [e4]; decide), q])
    refine ⟨⟨oc, od, cd, sl, X _ _ ho, e1, e2, e4⟩, made, ?_, sub _ _ e5, sub _ _ e6, sub _ _ ea, sub _ _ en, looks_specialIn X e7, looks_instIn X e8⟩
    intro A Q E s k q
    unfold Bind.staticBase
    refine wpAny_bind (hm A _ E s k ?_)
    rw [hl, List.forIn_cons]
    exact wpAny_bind (wpAny_bind (wpAny_bind (made A _ E s k (wpAny_pure (wpAny_pure (wpAny_pure q))))))
  · cases e

section
variable {prog : Program} {w : World} {A : Around} {C : Addr} {R : Result → Shared → Prop} {h : Heap} {g : Array GenState} {d : Drawn} {t : Nat} {os : OsState}

theorem canon_en : (Manifest.canonical "Exception.__new__" != Manifest.canonical "Exception.__new__") = false := bne_self_eq_false _

theorem exc_new {rest : List Value} {kw : List (Str × Value)} (Y : ExcC (model prog w) h C) (hrest : rest.length ≤ sizeLine)
    (hq : R (.ok (.ret (.ref (h.objs.size + 1)))) ⟨(h.push (tupObj rest)).push (excObj C h.objs.size), g, d, t, os⟩) :
    codeAny (model prog w) A (.call (.builtin "Exception.__new__") ⟨.ref C :: rest, kw⟩) R ⟨h, g, d, t, os⟩ := by
  obtain ⟨⟨oc, od, cd, sl, hC, e1, e2, e4⟩, made, base, self, exc, noA, noN, call, typ⟩ := Y
  have F := PySem.F.excBase_Exception
  refine codeAny_call_builtin_code (Code.quiet_builtin _ F.quiet) ?_
  simp only [checkBuiltinCall, F.newKind, F.newSplit, F.newRow]
  have args : Bind.checkArgs "Exception.__new__" ⟨.any, "Exception", "Exception", .cls, [⟨"args", .varPos, false⟩, ⟨"kwargs", .varKw, false⟩]⟩ ⟨.ref C :: rest, kw⟩ = pure () := by kernel_rfl
  rw [args]
  repeat (first | simp only [bne_self_eq_false, Bool.false_eq_true, if_false] | lk)
  have hends := F.ends
  have here : Looks (model prog w) h (Bind.madeHere "BaseException.__new__" (.ref C)) () := base.andThen (made.andThen (Looks.of_pure (by simp only [Option.map_some, F.canon, bne_self_eq_false, Bool.false_eq_true, if_false])))
  refine codeAny_builtinAt F.entry ?_
  unfold Builtin.«BaseException.__new__»
  refine PySem.wpAt_bind ?_
  show PySem.wpAt _ _ _ (stack >>= _) _ _ _
  refine PySem.wpAt_bind (PySem.wpAt_stack fun p below => PySem.wpAt_of_wpAny ?_)
  wp_walk
  refine PySem.wpAt_of_wpAny ?_
  rw [F.owner]
  repeat (first | simp only [Bool.false_eq_true, if_false] | lk)
  rw [if_neg (by rw [List.size_toArray]; omega)]
  unfold newObjAsIs
  refine wpAny_bind (wpAny_alloc ?_)
  dsimp only
  refine wpAny_pure ?_
  refine wpAny_bind ?_
  show wpAny _ _ (newObjAsIs _ _ _) _ _ _
  unfold newObjAsIs classHasDel
  refine wpAny_bind (wpAny_alloc (wpAny_bind (wpAny_bind (wpAny_load (Heap.get?_push_of_some _ (Heap.get?_push_of_some _ hC)) (wpAny_pure ?_)))))
  rw [e2]
  refine wpAny_pure (wpAny_pure ?_)
  show R _ _
  rw [Heap.size_push]
  exact hq

theorem exc_core {rest : List Value} {kw : List (Str × Value)} {init : Value} (Y : ExcC (model prog w) h C) (hrest : rest.length ≤ sizeLine) (hi : Looks (model prog w) h (typeLookup (.ref C) "__init__") (some init))
    (hb : ∀ self, Looks (model prog w) h (bindSpecial init self) (init, [self]))
    (hq : codeAny (model prog w) (A.under (.builtin "type.__call__" ⟨.ref C :: rest, kw⟩)) (.call init ⟨.ref (h.objs.size + 1) :: rest, kw⟩) (InitBack (h.objs.size + 1) R) ⟨(h.push (tupObj rest)).push (excObj C h.objs.size), g, d, t, os⟩) :
    codeAny (model prog w) A (.call (.ref C) ⟨rest, kw⟩) R ⟨h, g, d, t, os⟩ := by
  have Y' := Y
  obtain ⟨⟨oc, od, cd, sl, hC, e1, e2, e4⟩, made, base, self, exc, noA, noN, call, typ⟩ := Y
  refine codeAny_of_tree ?_
  show wpAny _ _ (callAny (.ref C) _) _ _ _
  refine nd_load hC ?_
  show wpAny _ _ (callAny.viaDunder (.ref C) _) _ _ _
  unfold callAny.viaDunder
  refine wpAny_bind (call.at ?_)
  dsimp only
  rw [tc_bind]
  refine wpAny_bind (wpAny_pure (wpAny_bind (wpAny_pure ?_)))
  refine wpAny_pure (a := Fin.again (.call (.builtin "type.__call__") ⟨.ref C :: rest, kw⟩)) (And.intro rfl ?_)
  refine codeAny_call_builtin_at (Code.quiet_builtin _ (by decide +kernel)) entry_typeCall (check_slot tc_kind tc_split typ (tc_args _ _ _) ?_)
  unfold Builtin.«type.__call__»
  have hm : Looks (model prog w) h (mroOf (.ref C)) cd.mro := ((Looks.ld (part := none) hC).andThen .now).andThen .now
  repeat (first | simp only [e4, Bool.false_eq_true, if_false] | with_reducible refine wpAny_call ?_ | lk)
  refine exc_new Y' hrest ?_
  have k : ∀ b o, h.get? b = some o → ((h.push (tupObj rest)).push (excObj C h.objs.size)).get? b = some o := fun b o e => Heap.get?_push_of_some _ (Heap.get?_push_of_some _ e)
  have hx : ((h.push (tupObj rest)).push (excObj C h.objs.size)).get? (h.objs.size + 1) = some (excObj C h.objs.size) := by heap_get
  have t1 : Looks (model prog w) ((h.push (tupObj rest)).push (excObj C h.objs.size)) (typeOf (.ref (h.objs.size + 1))) (.ref C) := (Looks.ld hx).andThen .now
  have s1 := self.keeps k
  have i1 := hi.keeps k
  have b1 := (hb (.ref (h.objs.size + 1))).keeps k
  unfold isInstance callSpecial? specialOf
  repeat (first | with_reducible refine wpAny_call ?_ | lk)
  refine codeAny_mono hq fun r s' z => ?_
  rcases r with e | (v | _ | _ | _) <;> first | exact z | exact z.elim | skip
  obtain ⟨rfl, z⟩ := z
  exact wpAny_pure (wpAny_pure z)
end
end Mine
end

-- E2
section
open PySem PySem.W PySem.Calls PyProof.Rows Builtin Builtin.ObjectAttr
set_option maxRecDepth 100000
set_option maxHeartbeats 4000000
namespace Mine

def bga : Value := .builtin "BaseException.__getattribute__"

section
variable {prog : Program} {w : World} {A : Around} {E : Value → Shared → Prop} {s : Shared} {K : Frag} {x C : Addr} {ox : Obj} {od : Option Obj} {name : Str} {expr : Bool} {Q : Value → Shared → Prop}

theorem ga_kind : builtinKind "BaseException.__getattribute__" = some .slot := by decide +kernel
theorem ga_split : splitId "BaseException.__getattribute__" = some ("BaseException", "__getattribute__") := by decide +kernel

theorem get_openE (X : K.In s.heap) (I : InstAt s.heap x ox C od) (hga : findIn K (.ref C) "__getattribute__" = some (some (.builtin "BaseException.__getattribute__")))
    (hb : subIn K (.ref C) (.type "BaseException") = some true) (hk : findIn K (.ref C) "__getattr__" = some none)
    (h : wpAny (model prog w) A.in1 (Builtin.«object.__getattribute__» ⟨[.ref x, .str name s.toks], []⟩)
      (fun fin s' => match fin with | .done (.ret v) => wpAny (model prog w) A (handedOut v) Q E s' | _ => False) (fun _ _ => False) { s with toks := s.toks + 1 }) :
    wpAny (model prog w) A (getAttr (.ref x) name expr) Q E s := by
  obtain ⟨hh, g, d, t, os⟩ := s
  have L0 := I.type (M := model prog w)
  have L1 := looks_findIn (M := model prog w) X hga
  have L2 := looks_findIn (M := model prog w) X hk
  unfold getAttr getAttrBy
  refine wpAny_bind (wpAny_mkText (wpAny_holding (wpAny_bind (L0.at (wpAny_bind (L1.at ?_))))))
  dsimp only
  rw [show (onTheHeap (.ref C) && Value.builtin "BaseException.__getattribute__" == Value.builtin "object.__getattribute__") = false from by rw [show (Value.builtin "BaseException.__getattribute__" == Value.builtin "object.__getattribute__") = false from by decide +kernel, Bool.and_false], if_neg (by decide)]
  unfold getAttrByItsOwn hookBefore
  rw [if_pos (show onTheHeap (.ref C) = true from rfl)]
  refine wpAny_bind (L2.at (wpAny_bind (wpAny_attempt (wpAny_holding ?_))))
  unfold callGetattribute
  rw [show (expr && onTheHeap (Value.builtin "BaseException.__getattribute__")) = false from Bool.and_false _, if_neg (by decide)]
  unfold boundAndCalled
  rw [PySem.F.attr_Exception.ga.bind]
  refine wpAny_bind (wpAny_pure ?_)
  show wpAny _ _ (call (.builtin "BaseException.__getattribute__") [.ref x, .str name t]) _ _ _
  refine wpAny_call ?_
  refine codeAny_call_builtin PySem.F.attr_Exception.ga.plain PySem.F.entry_bexc_ga ?_
  refine @check_slot (model prog w) _ _ { heap := hh, gens := g, drawn := d, toks := t + 1, os := os } "BaseException.__getattribute__" "BaseException" "__getattribute__" (.ref x) [.str name t] [] _ ga_kind ga_split (L0.andThen (looks_subIn X hb)) (PySem.F.args_bexc_ga (.ref x) (.str name t)) ?_
  refine wpAny_mono h (fun fin s' z => ?_) fun _ _ z => z.elim
  rcases fin with (_ | _ | _ | _) | _ <;> first | exact z | exact z.elim

theorem get_valueE {v : Value} (X : K.In s.heap) (I : InstAt s.heap x ox C od) (hga : findIn K (.ref C) "__getattribute__" = some (some (.builtin "BaseException.__getattribute__")))
    (hb : subIn K (.ref C) (.type "BaseException") = some true) (hk : findIn K (.ref C) "__getattr__" = some none)
    (hf : findObj K C od name = some (.value v)) (hh : handedIn v = true) (h : Q v { s with toks := s.toks + 1 }) : wpAny (model prog w) A (getAttr (.ref x) name expr) Q E s := by
  refine get_openE X I hga hb hk ?_
  obtain ⟨hh', g, d, t, os⟩ := s
  have L0 := I.type (M := model prog w)
  have L1 := looks_find (M := model prog w) X I hf
  refine wpAny_bind (wpAny_pure (wpAny_bind (wpAny_pure (wpAny_bind (L0.at (wpAny_bind (L1.at ?_)))))))
  refine wpAny_pure ?_
  show wpAny _ _ (handedOut v) _ _ _
  rw [handedOut_of hh]; exact wpAny_pure h

theorem get_classE {od : Obj} (X : K.In s.heap) (I : InstAt s.heap x ox C (some od)) (hga : findIn K (.ref C) "__getattribute__" = some (some (.builtin "BaseException.__getattribute__")))
    (hb : subIn K (.ref C) (.type "BaseException") = some true) (hk : findIn K (.ref C) "__getattr__" = some none)
    (hc : (clsIn K C).isSome = true) (ha : findIn K (.ref C) "__class__" = some (some (.builtin "object.__class__"))) (hn : specialIn K (.builtin "object.__class__") "__get__" = some (some (.builtin "getset_descriptor.__get__"))) (ht : takesIn K (.builtin "object.__class__") = some true)
    (hm : mroIn K C (.type "object") = some true) (h : Q (.ref C) { s with toks := s.toks + 1 }) : wpAny (model prog w) A (getAttr (.ref x) "__class__" expr) Q E s := by
  refine get_openE X I hga hb hk ?_
  have hf : findObj K C (some od) "__class__" = some (.bind (.builtin "getset_descriptor.__get__") (.builtin "object.__class__")) := findObj_data hc ha hn ht
  have L0 := I.type (M := model prog w)
  have L1 := looks_find (M := model prog w) X I hf
  refine wpAny_bind (wpAny_pure (wpAny_bind (wpAny_pure (wpAny_bind (L0.keeps (fun _ _ e => e) |>.at (wpAny_bind (L1.at ?_)))))))
  refine wpAny_bind (wpAny_holding (wpAny_call (class_get (s := { s with toks := s.toks + 1 }) (ox := ox) (od := some od) X I hm ?_)))
  refine wpAny_pure ?_
  show wpAny _ _ (handedOut (.ref C)) _ _ _
  rw [handedOut_of rfl]; exact wpAny_pure h
end

def excTail : List Value → Bool
  | [.type a, .type b, .type c] => a == "Exception" && b == "BaseException" && c == "object"
  | .ref _ :: r => excTail r
  | _ => false
theorem refuse_exc (self : Value) : ∀ {l : List Value}, excTail l = true → refuseLoop self "__setattr__" l = pure ()
  | [.type a, .type b, .type c], e => by
    simp only [excTail, Bool.and_eq_true, beq_iff_eq] at e
    obtain ⟨⟨rfl, rfl⟩, rfl⟩ := e
    exact PySem.F.store_Exception.passes self
  | .ref c :: r, e => by rw [refuseLoop_ref]; exact refuse_exc self (by cases r <;> first | exact e | cases e)
  | [], e => by cases e
  | [.type _], e => by cases e
  | [.type _, .type _], e => by cases e
  | .type _ :: .type _ :: .type _ :: _ :: _, e => by cases e
  | .type _ :: .type _ :: .none :: _, e => by cases e

def excOver (K : Frag) (C : Addr) : Bool := (clsIn K C).any fun cd => excTail cd.mro && cd.hasDict && cd.mro.contains (.type "object")

abbrev excObjD (C t dx : Addr) : Obj := { cls := .ref C, dict := some dx, data := .fields #[.ref t, .none, .none, .none, .bool false, .none] }

end Mine
end

-- E3
section
open PySem PySem.W PySem.Calls PyProof.Rows Builtin Builtin.ObjectAttr
set_option maxRecDepth 100000
set_option maxHeartbeats 4000000
namespace Mine
section
variable {prog : Program} {w : World} {A : Around} {E : Value → Shared → Prop} {s : Shared} {K : Frag} {x C t0 L : Addr} {name : Str} {v : Value} {h₀ : Heap} {m : Str → Option Value} {news : List (Addr × Obj)} {g : Obj → List (Addr × Obj)}

theorem set_newE {Q : Unit → Shared → Prop} (F : Fr h₀ L s.heap m) (X₀ : K.In h₀) (N : News h₀ L s.heap news) (U : UpdF x (excObj C t0) news g)
    (hs : findIn K (.ref C) "__setattr__" = some (some (.builtin "object.__setattr__"))) (hp : excOver K C = true) (ht : findIn K (.ref C) name = some none)
    (h : ∀ dx h', Fr h₀ L h' m → News h₀ L h' ((dx, dictOf [⟨PyData.keyHash w.params name, .str name (s.toks + 1), v⟩] 1) :: g (excObjD C t0 dx)) → (∀ p ∈ news, p.1 < dx) → Q () { s with heap := h', toks := s.toks + 2 }) :
    wpAny (model prog w) A (setAttr (.ref x) name v) Q E s := by
  have X := X₀.keeps F.keep
  obtain ⟨pre, post, rfl, hg, n1, n2⟩ := U.split
  have Hx := (N (x, excObj C t0) (by simp)).1
  have I : InstAt s.heap x (excObj C t0) C none := ⟨Hx, rfl, rfl, trivial⟩
  obtain ⟨cd, hc, hcd⟩ := any_some hp
  simp only [Bool.and_eq_true] at hcd
  obtain ⟨⟨ho, hd⟩, hob⟩ := hcd
  have ne : cd.mro.isEmpty = false := by cases q : cd.mro with | nil => rw [q] at ho; cases ho | cons _ _ => rfl
  refine set_plain X I hs ?_
  obtain ⟨hh, gg, d, t, os⟩ := s
  dsimp only at F N X Hx I ⊢
  have SF := PySem.F.store_object
  have sub : Looks (model prog w) hh (isInstance (.ref x) (.type "object")) true := I.type.andThen (looks_mroIn X (by unfold mroIn; rw [hc, Option.bind_some, if_neg (by rw [ne]; decide), hob]))
  refine codeAny_call_builtin SF.slot.plain SF.entry (@check_slot (model prog w) _ _ { heap := hh, gens := gg, drawn := d, toks := t + 1, os := os } "object.__setattr__" "object" "__setattr__" (.ref x) [.str name t, v] [] _ SF.kind SF.split sub (SF.args (.ref x) (.str name t) v) ?_)
  have hm : Looks (model prog w) hh (mroOf (.ref C)) cd.mro := (looks_clsIn X hc).andThen .now
  have L0 := I.type (M := model prog w)
  have L1 := looks_findIn (M := model prog w) X ht
  have L2 := looks_clsIn (M := model prog w) X hc
  rw [osa_eq, refuse_eq]
  refine wpAny_bind (wpAny_bind (L0.at (wpAny_bind (hm.at ?_))))
  rw [refuse_exc _ ho]
  refine wpAny_pure (wpAny_bind (L0.at (wpAny_bind (L1.at ?_))))
  refine wpAny_bind (wpAny_pure ?_)
  show wpAny _ _ (storeInOwnDict (.ref x) (.ref C) (.str name t) name v false) _ _ _
  unfold storeInOwnDict
  refine wpAny_bind (wpAny_pure ?_)
  rw [if_neg (by simp)]
  refine wpAny_bind ?_
  unfold ownDictForStores instanceDict
  refine wpAny_bind (wpAny_loadPart Hx ?_)
  dsimp only
  refine wpAny_bind (L2.at ?_)
  rw [hd]
  rw [if_neg (by decide), if_neg (by simp [typeHasDict])]
  have Fp := F.push emptyDict
  have Np := N.push F emptyDict
  have hlt : ∀ p ∈ pre ++ (x, excObj C t0) :: post, p.1 < hh.objs.size := fun p hp => Heap.lt_size (N p hp).1
  have hxd : hh.objs.size ≠ x := Nat.ne_of_gt (hlt (x, excObj C t0) (by simp))
  obtain ⟨F2, N2⟩ := news_upd (f := fun o => { cls := o.cls, dict := some hh.objs.size, data := o.data, slots := o.slots }) (pre := (hh.objs.size, emptyDict) :: pre) (post := post) (d := x) (o := excObj C t0) (o' := excObjD C t0 hh.objs.size) Fp Np
    (fun p hp => by rcases List.mem_cons.mp hp with rfl | hp; exact hxd; exact n1 p hp) n2 rfl rfl
  have Hx1 := (Np (x, excObj C t0) (by simp)).1
  refine wpAny_bind (wpAny_alloc (wpAny_bind (wpAny_update Hx1 (wpAny_pure ?_))))
  dsimp only
  obtain ⟨F3, N3⟩ := news_upd (f := Obj.putName name (PyData.keyHash w.params name) (.str name (t + 1)) v) (pre := []) (post := pre ++ (x, excObjD C t0 hh.objs.size) :: post) (d := hh.objs.size) (o := emptyDict)
    (o' := dictOf [⟨PyData.keyHash w.params name, .str name (t + 1), v⟩] 1) F2 N2 (fun _ h => nomatch h)
    (fun p hp => by
      rcases List.mem_append.mp hp with q | q
      · exact Nat.ne_of_lt (hlt p (List.mem_append_left _ q))
      · rcases List.mem_cons.mp q with rfl | q
        · exact hxd.symm
        · exact Nat.ne_of_lt (hlt p (List.mem_append_right _ (List.mem_cons_of_mem _ q)))) (by rw [show emptyDict = dictOf [] 0 from rfl, putName_dict]; rfl) rfl
  have D := (N2 (hh.objs.size, emptyDict) (by simp)).1
  have D' := (N3 (hh.objs.size, dictOf [⟨PyData.keyHash w.params name, .str name (t + 1), v⟩] 1) (by simp)).1
  show wpAny _ _ (storeInDict hh.objs.size (.str name t) name v) _ _ _
  unfold storeInDict newKeyGuard nsSet
  refine wpAny_bind (wpAny_pure (wpAny_bind (wpAny_bind (wpAny_bind (wpAny_askSetting (wpAny_pure (wpAny_bind (wpAny_mkText (wpAny_bind (wpAny_loadPart D ?_))))))))))
  dsimp only
  rw [aRefKeyMayBeTheName_at, if_neg (by simp)]
  refine wpAny_updatePart D ?_
  refine wpAny_bind (wpAny_lookBehind D' (pastItsLine_dict (by rw [List.size_toArray, sizeLine_eq]; simp)) ?_)
  refine wpAny_pure (h _ _ F3 ?_ hlt)
  rw [hg]
  exact N3
end
end Mine
end

-- E4
section
open PySem PySem.W PySem.Calls PyProof.Rows Builtin Builtin.ObjectAttr
set_option maxRecDepth 100000
set_option maxHeartbeats 4000000
namespace Mine
def LoopJ (x : Str) (stored : List Str) (m₀ : Str → Option Value) (news : List (Addr × Obj)) (m : Str → Option Value) (nx : List (Addr × Obj)) : Prop :=
  nx = news ∧ ∀ z, z ≠ x → stored.contains z = false → m z = m₀ z
section
variable {prog : Program} {w : World} {A : Around} {E : Value → Shared → Prop} {s : Shared} {env : Env} {h₀ : Heap} {x : Str} {body : List Stmt} {Q : Flow → Shared → Prop}

theorem invPostN_mono {L : Addr} {J J' : (Str → Option Value) → List (Addr × Obj) → Prop} {own : List (Addr × Obj)} {adr : List Addr} {s₁ : Shared} (hJ : ∀ m nx, J m nx → J' m nx) {f : Flow} {s₂ : Shared} (p : InvPostN h₀ L J own adr s₁ Q f s₂) : InvPostN h₀ L J' own adr s₁ Q f s₂ := by
  have fin : InvEndN h₀ L J own adr s₁ s₂ → InvEndN h₀ L J' own adr s₁ s₂ := by
    rintro ⟨h', tk, m', news', nx, e, F', N', hn, ho, ha, hm⟩
    exact ⟨h', tk, m', news', nx, e, F', N', hn, ho, ha, hJ _ _ hm⟩
  cases f with
  | ret v => exact p
  | brk => exact p
  | next => exact fin p
  | cont => exact fin p

theorem range_loop {L r : Addr} {b₀ : Int} {t₀ u₀ v₀ : Tok} (n : Nat) {m₀ : Str → Option Value} {news : List (Addr × Obj)} (stored : List Str) (hL : env.locals = L)
    (hh : A.handled = none) (hr : IsRange s.heap r 0 b₀ 1 t₀ u₀ v₀) (hsmall : Builtin.Range.small 0 b₀ 1 = true) (hn : Builtin.Range.rangeSize 0 b₀ 1 = (n : Int)) (F : Fr h₀ L s.heap m₀) (N : News h₀ L s.heap news)
    (turn : ∀ (k : Int) t (u : Str → Option Value) h tk own, 0 ≤ k → k < (n : Int) → OwnOff own (news.map (·.1)) →
      Fr h₀ L h (fun y => if y = x then some (.int k t) else if stored.contains y then u y else m₀ y) → News h₀ L h (news ++ own) →
      wpAny (model prog w) A (execs body env) (InvPostN h₀ L (LoopJ x stored m₀ news) own (news.map (·.1)) { s with heap := h, toks := tk } Q) E { s with heap := h, toks := tk })
    (done : ∀ (u : Str → Option Value) h tk, Fr h₀ L h (fun y => if y = x then u y else if stored.contains y then u y else m₀ y) → News h₀ L h news → Q .next { s with heap := h, toks := tk }) :
    wpAny (model prog w) A (pyIter (.ref r)) (fun it s₂ => LoopAtV prog w A h₀ env x body Q E it s₂) E s := by
  subst hL
  refine kst_range (σ := Unit) (fun _ => news) (fun _ => []) (fun _ => True) stored (fun _ _ => True) () hh hr hsmall hn F N trivial (fun _ h => nomatch h) trivial ?_ ?_
  · intro c pre k t u h tk own hk hlt hoff _ _ F' N'
    refine wpAny_mono (turn k t u h tk own (by omega) (by omega) hoff F' N') (fun f s₂ p => invPostN_mono (fun m nx => ?_) p) fun _ _ e => e
    rintro ⟨rfl, h2⟩
    exact ⟨(), rfl, trivial, (fun _ h => nomatch h), fun z h1 _ h3 => h2 z h1 h3, trivial⟩
  · intro c u h tk _ _ F' N'
    exact done u h tk F' N'

theorem turn_end {L : Addr} {m m₀ : Str → Option Value} {stored : List Str} {own news news' : List (Addr × Obj)} {s₁ : Shared} {h' : Heap} {tk : Nat} (F : Fr h₀ L h' m) (N : News h₀ L h' news')
    (hn : ∀ p ∈ news, p ∈ news') (ho : ∀ p ∈ own, p ∈ news') (hm : ∀ z, z ≠ x → stored.contains z = false → m z = m₀ z) :
    InvEndN h₀ L (LoopJ x stored m₀ news) own (news.map (·.1)) s₁ { s₁ with heap := h', toks := tk } :=
  ⟨h', tk, m, news', news, rfl, F, N, hn, ho, rfl, rfl, hm⟩
end

/-- a list of the ledger at a place that is not written -/
theorem item_at {prog : Program} {w : World} {A : Around} {E : Value → Shared → Prop} {s : Shared} {h₀ : Heap} {L l : Addr} {news : List (Addr × Obj)} {value slice : PySem.Expr} {vs : List Value} {n : Nat} {k : Int} {u : Tok} {Q : Value → Shared → Prop}
    (N : News h₀ L s.heap news) (hl : (l, W.listOf vs.toArray n) ∈ news) (h0 : 0 ≤ k) (h1 : k < (vs.length : Int)) (hhi : k < 2 ^ 63) (h : Q (vs.getD k.toNat .none) s)
    (hs : subscripted slice false (.ref l) (.int k u) = operate [.ref l, .int k u] (getItem (.ref l) (.int k u)) := by with_unfolding_all rfl) :
    wpAny (model prog w) A (subscriptTail value slice (.ref l) (.int k u)) Q E s := by
  have hL : s.heap.IsList l vs.toArray := ⟨_, (N _ hl).1, rfl, n, rfl⟩
  refine item_litK hL h0 hhi ?_ h hs
  rw [List.getD_eq_getElem?_getD]
  have : k.toNat < vs.length := by omega
  rw [List.getElem?_eq_getElem this]; rfl

theorem getD_refs {as : List Addr} {n : Nat} (h : n < as.length) : (as.map Value.ref).getD n .none = .ref (as.getD n 0) := by
  simp [List.getD_eq_getElem?_getD, h]

def clsA : List Addr := [24, 37, 50, 62, 74, 136, 148, 160, 172, 184, 196, 208, 220, 232, 244, 256, 268, 280, 292, 304, 316, 328, 340, 352, 364, 376, 388, 400, 412, 424]
def clsAt (k : Int) : Addr := clsA.getD k.toNat 0
def opsA : List Addr := clsA.drop 5
def firstA : List Addr := clsA.take 5
theorem cls_refs {vs : List Value} (e : vs = clsA.map Value.ref) {k : Int} (h0 : 0 ≤ k) (h1 : k < 30) : vs.getD k.toNat .none = .ref (clsAt k) := by
  rw [e]; exact getD_refs (by show k.toNat < 30; omega)
theorem cls_op {k : Int} (h0 : 5 ≤ k) (h1 : k < 30) : clsAt k ∈ opsA := by
  have : ∀ n, n < 30 → 5 ≤ n → clsA.getD n 0 ∈ opsA := by decide
  exact this k.toNat (by omega) (by omega)
theorem cls_first {k : Int} (h0 : 0 ≤ k) (h1 : k ≤ 4) : clsAt k ∈ firstA := by
  have : ∀ n, n < 5 → clsA.getD n 0 ∈ firstA := by decide
  exact this k.toNat (by omega)
end Mine
end

-- E5
section
open PySem PySem.W PySem.Calls PyProof.Rows Builtin Builtin.ObjectAttr
set_option maxRecDepth 100000
set_option maxHeartbeats 4000000
namespace Mine

def slotStr (K : Frag) (C : Addr) (nm : Str) : Bool := match K.lookup C with
  | some ⟨_, _, .cls _, sl⟩ => (match ((sl.toList[2]?).join : Option Value) with | some (Value.str x _) => x == nm | _ => false)
  | _ => false
structure OpC (K : Frag) (C : Addr) (nm : Str) : Prop where
  exc : excIn K C = true
  keep : keepIn K (.ref C) = true
  init : findIn K (.ref C) "__init__" = some (some (.ref 90))
  seta : findIn K (.ref C) "__setattr__" = some (some (.builtin "object.__setattr__"))
  over : excOver K C = true
  out : findIn K (.ref C) "_MibOperationError__outArgs" = some none
  ga : findIn K (.ref C) "__getattribute__" = some (some (.builtin "BaseException.__getattribute__"))
  gt : findIn K (.ref C) "__getattr__" = some none
  base : subIn K (.ref C) (.type "BaseException") = some true
  hasD : hasDictIn K C = true
  cls : findIn K (.ref C) "__class__" = some (some (.builtin "object.__class__"))
  objm : mroIn K C (.type "object") = some true
  item : findIn K (.ref C) "__getitem__" = some (some (.ref 104))
  has : findIn K (.ref C) "__contains__" = some (some (.ref 111))
  get : findIn K (.ref C) "get" = some (some (.ref 119))
  keys : findIn K (.ref C) "keys" = some (some (.ref 126))
  upd : findIn K (.ref C) "update" = some (some (.ref 133))
  str : findIn K (.ref C) "__str__" = some (some (.ref 97))
  seq : noSeq K C = true
  reads : readsIn K C (.type "type") = true
  tname : findCls K (.ref C) (.type "type") "__name__" = some (.get (.builtin "getset_descriptor.__get__") (.builtin "type.__name__") (.ref C) (.type "type"))
  typ : typeIn K (.ref C) = some (.type "type")
  nm : slotStr K C nm = true

def opOk (K : Frag) (C : Addr) (nm : Str) : Bool :=
  excIn K C && keepIn K (.ref C) && findIn K (.ref C) "__init__" == some (some (.ref 90)) && findIn K (.ref C) "__setattr__" == some (some (.builtin "object.__setattr__")) && excOver K C &&
  findIn K (.ref C) "_MibOperationError__outArgs" == some none && findIn K (.ref C) "__getattribute__" == some (some (.builtin "BaseException.__getattribute__")) && findIn K (.ref C) "__getattr__" == some none &&
  subIn K (.ref C) (.type "BaseException") == some true && hasDictIn K C && findIn K (.ref C) "__class__" == some (some (.builtin "object.__class__")) && mroIn K C (.type "object") == some true &&
  findIn K (.ref C) "__getitem__" == some (some (.ref 104)) && findIn K (.ref C) "__contains__" == some (some (.ref 111)) && findIn K (.ref C) "get" == some (some (.ref 119)) && findIn K (.ref C) "keys" == some (some (.ref 126)) &&
  findIn K (.ref C) "update" == some (some (.ref 133)) && findIn K (.ref C) "__str__" == some (some (.ref 97)) && noSeq K C && readsIn K C (.type "type") &&
  (match findCls K (.ref C) (.type "type") "__name__" with | some (.get g a o t) => g == .builtin "getset_descriptor.__get__" && a == .builtin "type.__name__" && o == .ref C && t == .type "type" | _ => false) &&
  typeIn K (.ref C) == some (.type "type") && slotStr K C nm
theorem op_of {K : Frag} {C : Addr} {nm : Str} (h : opOk K C nm = true) : OpC K C nm := by
  unfold opOk at h
  simp only [Bool.and_eq_true, beq_iff_eq] at h
  obtain ⟨⟨⟨⟨⟨⟨⟨⟨⟨⟨⟨⟨⟨⟨⟨⟨⟨⟨⟨⟨⟨⟨h1, h2⟩, h3⟩, h4⟩, h5⟩, h6⟩, h7⟩, h8⟩, h9⟩, h10⟩, h11⟩, h12⟩, h13⟩, h14⟩, h15⟩, h16⟩, h17⟩, h18⟩, h19⟩, h20⟩, h21⟩, h22⟩, h23⟩ := h
  refine ⟨h1, h2, h3, h4, h5, h6, h7, h8, h9, h10, h11, h12, h13, h14, h15, h16, h17, h18, h19, h20, ?_, h22, h23⟩
  split at h21
  · rename_i e
    simp only [Bool.and_eq_true, beq_iff_eq] at h21
    obtain ⟨⟨⟨rfl, rfl⟩, rfl⟩, rfl⟩ := h21
    exact e
  · cases h21

section
variable {prog : Program} {w : World} {A : Around} {E : Value → Shared → Prop} {s : Shared} {K : Frag} {x C t0 dx L f : Addr} {nm name : Str} {v : Value} {h₀ : Heap} {m : Str → Option Value} {news : List (Addr × Obj)} {ox : Obj} {od : Option Obj}

theorem inst_of_news {h : Heap} {od : Obj} (N : News h₀ L h news) (h1 : (x, excObjD C t0 dx) ∈ news) (h2 : (dx, od) ∈ news) : W.InstAt h x (excObjD C t0 dx) C (some od) := ⟨(N _ h1).1, rfl, rfl, (N _ h2).1⟩

theorem call_op {rest : List Value} {kw : List (Str × Value)} {fI : Addr} {Q : Value → Shared → Prop} (F : Fr h₀ L s.heap m) (X₀ : K.In h₀) (N : News h₀ L s.heap news) (hm : excIn K C = true) (hi : findIn K (.ref C) "__init__" = some (some (.ref fI))) (hf : isFn K (.ref fI) = true) (hrest : rest.length ≤ sizeLine)
    (h : ∀ x t h', Fr h₀ L h' m → News h₀ L h' ((x, excObj C t) :: (t, tupObj rest) :: news) → (∀ p ∈ news, p.1 < t) → (∀ p ∈ (t, tupObj rest) :: news, p.1 < x) →
      codeAny (model prog w) (A.under (.builtin "type.__call__" ⟨.ref C :: rest, kw⟩)) (.call (.ref fI) ⟨.ref x :: rest, kw⟩) (InitBack x fun r s' => match r with | .ok (.ret v) => Q v s' | .ok _ => False | .error e => E e s') { s with heap := h' }) :
    wpAny (model prog w) A (call (.ref C) rest kw) Q E s := by
  have X := X₀.keeps F.keep
  obtain ⟨hh, g, d, t, os⟩ := s
  dsimp only at F N X
  refine wpAny_call (exc_core (exc_of X hm) hrest (looks_findIn X hi) (fun self => bind_fn X self (beq_iff_eq.mp hf)) (h _ hh.objs.size _ ((F.push _).push _) ?_ (fun p hp => Heap.lt_size (N p hp).1) (fun p hp => by
    rcases List.mem_cons.mp hp with rfl | hp
    · exact Nat.lt_succ_self _
    · exact Nat.lt_succ_of_lt (Heap.lt_size (N p hp).1))))
  have := (N.push F (tupObj rest)).push (F.push _) (excObj C hh.objs.size)
  rwa [Heap.size_push] at this

theorem ei_bind (self : Value) : bindSpecial (.builtin "Exception.__init__") self = pure (.builtin "Exception.__init__", [self]) := PySem.F.excCall_Exception.init.bind self

theorem canon_bga : (Manifest.canonical "BaseException.__getattribute__" != "object.__getattribute__") = false := by decide +kernel

theorem method_fnE {pl : Sem Bool} {Q : Value × List Value → Shared → Prop} (X : K.In s.heap) (I : W.InstAt s.heap x ox C od) (hga : findIn K (.ref C) "__getattribute__" = some (some (.builtin "BaseException.__getattribute__"))) (hk : findIn K (.ref C) "__getattr__" = some none)
    (hf : findIn K (.ref C) name = some (some (.ref f))) (ht : typeIn K (.ref f) = some (.type "function")) (hs : shadowIn od name = some false) (h : Q (.ref f, [.ref x]) s) :
    wpAny (model prog w) A (getMethod (.ref x) name pl) Q E s := by
  have hcan := canon_bga
  unfold getMethod specialOf
  refine wpAny_bind (wpAny_bind (I.type.here ((looks_findIn X hga).here ?_)))
  dsimp only
  rw [hcan, if_neg (by decide)]
  refine wpAny_bind (wpAny_bind (I.type.here ((looks_findIn X hk).here ?_)))
  refine wpAny_bind (wpAny_bind (I.type.here ((looks_findIn X hf).here (wpAny_bind ((looks_typeIn X ht).here ?_)))))
  rw [if_neg (by decide +kernel)]
  refine wpAny_bind (wpAny_loadPart I.at_ ?_)
  have hd := I.dict
  cases e : ox.dict with
  | none => exact wpAny_bind (wpAny_rule (wpAny_pure h))
  | some dx =>
    cases od with
    | none => rw [e] at hd; exact hd.elim
    | some o =>
      rw [e] at hd
      obtain ⟨r, a, b⟩ := Option.map_eq_some_iff.mp hs
      refine wpAny_bind (wpAny_bind (wpAny_loadPart hd ?_))
      rw [nsLook_of a]
      refine wpAny_pure ?_
      rw [b]
      exact wpAny_bind (wpAny_rule (wpAny_pure h))

theorem op_method {pl : Sem Bool} {es : List DictEntry} {n : Nat} {Q : Value × List Value → Shared → Prop} (F : Fr h₀ L s.heap m) (X₀ : K.In h₀) (I : W.InstAt s.heap x ox C (some (dictOf es n))) (hop : OpC K C nm)
    (hf : findIn K (.ref C) name = some (some (.ref f))) (ht : isFn K (.ref f) = true) (hl : getL name es = some none) (h : Q (.ref f, [.ref x]) s) : wpAny (model prog w) A (getMethod (.ref x) name pl) Q E s :=
  method_fnE (X₀.keeps F.keep) I hop.ga hop.gt hf (beq_iff_eq.mp ht) (by show (lookIn name (dictOf es n)).map _ = _; rw [lookIn_dict, hl]; rfl) h

theorem op_attr {es : List DictEntry} {n : Nat} {expr : Bool} {Q : Value → Shared → Prop} (F : Fr h₀ L s.heap m) (X₀ : K.In h₀) (I : W.InstAt s.heap x ox C (some (dictOf es n))) (hop : OpC K C nm)
    (hl : getL "_MibOperationError__outArgs" es = some (some v)) (hv : handedIn v = true) (h : Q v { s with toks := s.toks + 1 }) : wpAny (model prog w) A (getAttr (.ref x) "_MibOperationError__outArgs" expr) Q E s :=
  get_valueE (X₀.keeps F.keep) I hop.ga hop.base hop.gt (findObj_own hop.hasD hop.out rfl hl) hv h

theorem cls_some (hop : OpC K C nm) : (clsIn K C).isSome = true := by
  obtain ⟨cd, h, _⟩ := any_some hop.hasD
  rw [h]; rfl
theorem op_class {es : List DictEntry} {n : Nat} {expr : Bool} {Q : Value → Shared → Prop} (F : Fr h₀ L s.heap m) (X₀ : K.In h₀) (I : W.InstAt s.heap x ox C (some (dictOf es n))) (hop : OpC K C nm)
    (hn : specialIn K (.builtin "object.__class__") "__get__" = some (some (.builtin "getset_descriptor.__get__"))) (ht : takesIn K (.builtin "object.__class__") = some true)
    (h : Q (.ref C) { s with toks := s.toks + 1 }) : wpAny (model prog w) A (getAttr (.ref x) "__class__" expr) Q E s :=
  get_classE (X₀.keeps F.keep) I hop.ga hop.base hop.gt (cls_some hop) hop.cls hn ht hop.objm h

theorem op_set {Q : Unit → Shared → Prop} {g : Obj → List (Addr × Obj)} (F : Fr h₀ L s.heap m) (X₀ : K.In h₀) (N : News h₀ L s.heap news) (hop : OpC K C nm) (U : UpdF x (excObj C t0) news g)
    (h : ∀ dx h', Fr h₀ L h' m → News h₀ L h' ((dx, dictOf [⟨PyData.keyHash w.params "_MibOperationError__outArgs", .str "_MibOperationError__outArgs" (s.toks + 1), v⟩] 1) :: g (excObjD C t0 dx)) → (∀ p ∈ news, p.1 < dx) → Q () { s with heap := h', toks := s.toks + 2 }) :
    wpAny (model prog w) A (setAttr (.ref x) "_MibOperationError__outArgs" v) Q E s :=
  set_newE F X₀ N U hop.seta hop.over hop.out h
end
end Mine
end

-- E6
section
open PySem PySem.W PySem.Calls PyProof.Rows Builtin Builtin.ObjectAttr Builtin.Getset_descriptor
set_option maxRecDepth 100000
set_option maxHeartbeats 4000000
namespace Mine
section
variable {prog : Program} {w : World} {A : Around} {E : Value → Shared → Prop} {s : Shared} {K : Frag} {C L : Addr} {nm : Str} {h₀ : Heap} {m : Str → Option Value} {R : Result → Shared → Prop}

theorem name_get {tp : Value} (X : K.In s.heap) (ht : typeIn K (.ref C) = some (.type "type")) (hsl : slotStr K C nm = true) (h : ∀ u, R (.ok (.ret (.str nm u))) s) :
    codeAny (model prog w) A (.call (.builtin "getset_descriptor.__get__") ⟨[.builtin "type.__name__", .ref C, tp], []⟩) R s := by
  obtain ⟨hh, g, dr, t, os⟩ := s
  dsimp only at X
  unfold slotStr at hsl
  split at hsl
  · rename_i oc od cd sl ho
    split at hsl
    · rename_i x u hx
      obtain rfl : x = nm := beq_iff_eq.mp hsl
      have hC := X _ _ ho
      have L0 : Looks (model prog w) hh (typeOf (.ref C)) (.type "type") := looks_typeIn X ht
      have L1 : Looks (model prog w) hh (isSubtype (.type "type") (.type "type")) true := Looks.of_pure (by rw [isSubtype_type]; kernel_rfl)
      refine codeAny_call_builtin KF.slot_gs.plain KF.entry_gs (KF.slot_gs.check _ _ _ _ _ _ _ _ ktyn_type (KF.args_gs _ _ _) ?_)
      unfold Builtin.«getset_descriptor.__get__» descrGet
      rw [dga_obj]
      refine wpAny_bind (wpAny_pure ?_)
      unfold descrGetter descrCheckInstance descrNameAndClass isInstance
      simp only [ktyn_owner]
      repeat lk
      refine ⟨Code.quiet_builtin _ (by decide +kernel), codeAny_builtin ktyn_entry ?_⟩
      unfold Builtin.«type.__name__» keptObject
      repeat lk
      rw [← Array.getElem?_toList, hx]
      exact wpAny_pure (h u)
    · cases hsl
  · cases hsl

theorem op_name {expr : Bool} {Q : Value → Shared → Prop} (F : Fr h₀ L s.heap m) (X₀ : K.In h₀) (hop : OpC K C nm) (h : ∀ u, Q (.str nm u) { s with toks := s.toks + 1 }) : wpAny (model prog w) A (getAttr (.ref C) "__name__" expr) Q E s :=
  have X := X₀.keeps F.keep
  cls_bind X hop.reads hop.tname (wpAny_call (name_get (s := { s with toks := s.toks + 1 }) X hop.typ hop.nm fun u => handed_on rfl (h u)))
end
end Mine
end

-- E7
section
open PySem PySem.W PySem.Calls PyProof.Rows
set_option maxRecDepth 100000
set_option maxHeartbeats 4000000
namespace Mine
def nameL : List Str := ["PySnmpError", "PyAsn1Error", "SmiError", "MibLoadError", "MibNotFoundError", "MibOperationError", "TooBigError", "NoSuchNameError", "BadValueError", "ReadOnlyError", "GenError", "NoAccessError", "WrongTypeError", "WrongLengthError", "WrongEncodingError", "WrongValueError", "NoCreationError", "InconsistentValueError", "ResourceUnavailableError", "CommitFailedError", "UndoFailedError", "AuthorizationError", "NotWritableError", "InconsistentNameError", "NoSuchObjectError", "NoSuchInstanceError", "EndOfMibViewError", "TableRowManagement", "RowCreationWanted", "RowDestructionWanted"]
def nmAt (k : Int) : Str := nameL.getD k.toNat "MibOperationError"
theorem op_5 (P : Params) : OpC (Mine.hd.heap_39 P) 136 "MibOperationError" := ⟨by kernel_rfl, by kernel_rfl, by kernel_rfl, by kernel_rfl, by kernel_rfl, by kernel_rfl, by kernel_rfl, by kernel_rfl, by kernel_rfl, by kernel_rfl, by kernel_rfl, by kernel_rfl, by kernel_rfl, by kernel_rfl, by kernel_rfl, by kernel_rfl, by kernel_rfl, by kernel_rfl, by kernel_rfl, by kernel_rfl, by kernel_rfl, by kernel_rfl, by kernel_rfl⟩
theorem op_6 (P : Params) : OpC (Mine.hd.heap_39 P) 148 "TooBigError" := ⟨by kernel_rfl, by kernel_rfl, by kernel_rfl, by kernel_rfl, by kernel_rfl, by kernel_rfl, by kernel_rfl, by kernel_rfl, by kernel_rfl, by kernel_rfl, by kernel_rfl, by kernel_rfl, by kernel_rfl, by kernel_rfl, by kernel_rfl, by kernel_rfl, by kernel_rfl, by kernel_rfl, by kernel_rfl, by kernel_rfl, by kernel_rfl, by kernel_rfl, by kernel_rfl⟩
theorem op_7 (P : Params) : OpC (Mine.hd.heap_39 P) 160 "NoSuchNameError" := ⟨by kernel_rfl, by kernel_rfl, by kernel_rfl, by kernel_rfl, by kernel_rfl, by kernel_rfl, by kernel_rfl, by kernel_rfl, by kernel_rfl, by kernel_rfl, by kernel_rfl, by kernel_rfl, by kernel_rfl, by kernel_rfl, by kernel_rfl, by kernel_rfl, by kernel_rfl, by kernel_rfl, by kernel_rfl, by kernel_rfl, by kernel_rfl, by kernel_rfl, by kernel_rfl⟩
theorem op_8 (P : Params) : OpC (Mine.hd.heap_39 P) 172 "BadValueError" := ⟨by kernel_rfl, by kernel_rfl, by kernel_rfl, by kernel_rfl, by kernel_rfl, by kernel_rfl, by kernel_rfl, by kernel_rfl, by kernel_rfl, by kernel_rfl, by kernel_rfl, by kernel_rfl, by kernel_rfl, by kernel_rfl, by kernel_rfl, by kernel_rfl, by kernel_rfl, by kernel_rfl, by kernel_rfl, by kernel_rfl, by kernel_rfl, by kernel_rfl, by kernel_rfl⟩
theorem op_9 (P : Params) : OpC (Mine.hd.heap_39 P) 184 "ReadOnlyError" := ⟨by kernel_rfl, by kernel_rfl, by kernel_rfl, by kernel_rfl, by kernel_rfl, by kernel_rfl, by kernel_rfl, by kernel_rfl, by kernel_rfl, by kernel_rfl, by kernel_rfl, by kernel_rfl, by kernel_rfl, by kernel_rfl, by kernel_rfl, by kernel_rfl, by kernel_rfl, by kernel_rfl, by kernel_rfl, by kernel_rfl, by kernel_rfl, by kernel_rfl, by kernel_rfl⟩
theorem op_10 (P : Params) : OpC (Mine.hd.heap_39 P) 196 "GenError" := ⟨by kernel_rfl, by kernel_rfl, by kernel_rfl, by kernel_rfl, by kernel_rfl, by kernel_rfl, by kernel_rfl, by kernel_rfl, by kernel_rfl, by kernel_rfl, by kernel_rfl, by kernel_rfl, by kernel_rfl, by kernel_rfl, by kernel_rfl, by kernel_rfl, by kernel_rfl, by kernel_rfl, by kernel_rfl, by kernel_rfl, by kernel_rfl, by kernel_rfl, by kernel_rfl⟩
theorem op_11 (P : Params) : OpC (Mine.hd.heap_39 P) 208 "NoAccessError" := ⟨by kernel_rfl, by kernel_rfl, by kernel_rfl, by kernel_rfl, by kernel_rfl, by kernel_rfl, by kernel_rfl, by kernel_rfl, by kernel_rfl, by kernel_rfl, by kernel_rfl, by kernel_rfl, by kernel_rfl, by kernel_rfl, by kernel_rfl, by kernel_rfl, by kernel_rfl, by kernel_rfl, by kernel_rfl, by kernel_rfl, by kernel_rfl, by kernel_rfl, by kernel_rfl⟩
theorem op_12 (P : Params) : OpC (Mine.hd.heap_39 P) 220 "WrongTypeError" := ⟨by kernel_rfl, by kernel_rfl, by kernel_rfl, by kernel_rfl, by kernel_rfl, by kernel_rfl, by kernel_rfl, by kernel_rfl, by kernel_rfl, by kernel_rfl, by kernel_rfl, by kernel_rfl, by kernel_rfl, by kernel_rfl, by kernel_rfl, by kernel_rfl, by kernel_rfl, by kernel_rfl, by kernel_rfl, by kernel_rfl, by kernel_rfl, by kernel_rfl, by kernel_rfl⟩
theorem op_13 (P : Params) : OpC (Mine.hd.heap_39 P) 232 "WrongLengthError" := ⟨by kernel_rfl, by kernel_rfl, by kernel_rfl, by kernel_rfl, by kernel_rfl, by kernel_rfl, by kernel_rfl, by kernel_rfl, by kernel_rfl, by kernel_rfl, by kernel_rfl, by kernel_rfl, by kernel_rfl, by kernel_rfl, by kernel_rfl, by kernel_rfl, by kernel_rfl, by kernel_rfl, by kernel_rfl, by kernel_rfl, by kernel_rfl, by kernel_rfl, by kernel_rfl⟩
theorem op_14 (P : Params) : OpC (Mine.hd.heap_39 P) 244 "WrongEncodingError" := ⟨by kernel_rfl, by kernel_rfl, by kernel_rfl, by kernel_rfl, by kernel_rfl, by kernel_rfl, by kernel_rfl, by kernel_rfl, by kernel_rfl, by kernel_rfl, by kernel_rfl, by kernel_rfl, by kernel_rfl, by kernel_rfl, by kernel_rfl, by kernel_rfl, by kernel_rfl, by kernel_rfl, by kernel_rfl, by kernel_rfl, by kernel_rfl, by kernel_rfl, by kernel_rfl⟩
theorem op_15 (P : Params) : OpC (Mine.hd.heap_39 P) 256 "WrongValueError" := ⟨by kernel_rfl, by kernel_rfl, by kernel_rfl, by kernel_rfl, by kernel_rfl, by kernel_rfl, by kernel_rfl, by kernel_rfl, by kernel_rfl, by kernel_rfl, by kernel_rfl, by kernel_rfl, by kernel_rfl, by kernel_rfl, by kernel_rfl, by kernel_rfl, by kernel_rfl, by kernel_rfl, by kernel_rfl, by kernel_rfl, by kernel_rfl, by kernel_rfl, by kernel_rfl⟩
theorem op_16 (P : Params) : OpC (Mine.hd.heap_39 P) 268 "NoCreationError" := ⟨by kernel_rfl, by kernel_rfl, by kernel_rfl, by kernel_rfl, by kernel_rfl, by kernel_rfl, by kernel_rfl, by kernel_rfl, by kernel_rfl, by kernel_rfl, by kernel_rfl, by kernel_rfl, by kernel_rfl, by kernel_rfl, by kernel_rfl, by kernel_rfl, by kernel_rfl, by kernel_rfl, by kernel_rfl, by kernel_rfl, by kernel_rfl, by kernel_rfl, by kernel_rfl⟩
theorem op_17 (P : Params) : OpC (Mine.hd.heap_39 P) 280 "InconsistentValueError" := ⟨by kernel_rfl, by kernel_rfl, by kernel_rfl, by kernel_rfl, by kernel_rfl, by kernel_rfl, by kernel_rfl, by kernel_rfl, by kernel_rfl, by kernel_rfl, by kernel_rfl, by kernel_rfl, by kernel_rfl, by kernel_rfl, by kernel_rfl, by kernel_rfl, by kernel_rfl, by kernel_rfl, by kernel_rfl, by kernel_rfl, by kernel_rfl, by kernel_rfl, by kernel_rfl⟩
theorem op_18 (P : Params) : OpC (Mine.hd.heap_39 P) 292 "ResourceUnavailableError" := ⟨by kernel_rfl, by kernel_rfl, by kernel_rfl, by kernel_rfl, by kernel_rfl, by kernel_rfl, by kernel_rfl, by kernel_rfl, by kernel_rfl, by kernel_rfl, by kernel_rfl, by kernel_rfl, by kernel_rfl, by kernel_rfl, by kernel_rfl, by kernel_rfl, by kernel_rfl, by kernel_rfl, by kernel_rfl, by kernel_rfl, by kernel_rfl, by kernel_rfl, by kernel_rfl⟩
theorem op_19 (P : Params) : OpC (Mine.hd.heap_39 P) 304 "CommitFailedError" := ⟨by kernel_rfl, by kernel_rfl, by kernel_rfl, by kernel_rfl, by kernel_rfl, by kernel_rfl, by kernel_rfl, by kernel_rfl, by kernel_rfl, by kernel_rfl, by kernel_rfl, by kernel_rfl, by kernel_rfl, by kernel_rfl, by kernel_rfl, by kernel_rfl, by kernel_rfl, by kernel_rfl, by kernel_rfl, by kernel_rfl, by kernel_rfl, by kernel_rfl, by kernel_rfl⟩
theorem op_20 (P : Params) : OpC (Mine.hd.heap_39 P) 316 "UndoFailedError" := ⟨by kernel_rfl, by kernel_rfl, by kernel_rfl, by kernel_rfl, by kernel_rfl, by kernel_rfl, by kernel_rfl, by kernel_rfl, by kernel_rfl, by kernel_rfl, by kernel_rfl, by kernel_rfl, by kernel_rfl, by kernel_rfl, by kernel_rfl, by kernel_rfl, by kernel_rfl, by kernel_rfl, by kernel_rfl, by kernel_rfl, by kernel_rfl, by kernel_rfl, by kernel_rfl⟩
theorem op_21 (P : Params) : OpC (Mine.hd.heap_39 P) 328 "AuthorizationError" := ⟨by kernel_rfl, by kernel_rfl, by kernel_rfl, by kernel_rfl, by kernel_rfl, by kernel_rfl, by kernel_rfl, by kernel_rfl, by kernel_rfl, by kernel_rfl, by kernel_rfl, by kernel_rfl, by kernel_rfl, by kernel_rfl, by kernel_rfl, by kernel_rfl, by kernel_rfl, by kernel_rfl, by kernel_rfl, by kernel_rfl, by kernel_rfl, by kernel_rfl, by kernel_rfl⟩
theorem op_22 (P : Params) : OpC (Mine.hd.heap_39 P) 340 "NotWritableError" := ⟨by kernel_rfl, by kernel_rfl, by kernel_rfl, by kernel_rfl, by kernel_rfl, by kernel_rfl, by kernel_rfl, by kernel_rfl, by kernel_rfl, by kernel_rfl, by kernel_rfl, by kernel_rfl, by kernel_rfl, by kernel_rfl, by kernel_rfl, by kernel_rfl, by kernel_rfl, by kernel_rfl, by kernel_rfl, by kernel_rfl, by kernel_rfl, by kernel_rfl, by kernel_rfl⟩
theorem op_23 (P : Params) : OpC (Mine.hd.heap_39 P) 352 "InconsistentNameError" := ⟨by kernel_rfl, by kernel_rfl, by kernel_rfl, by kernel_rfl, by kernel_rfl, by kernel_rfl, by kernel_rfl, by kernel_rfl, by kernel_rfl, by kernel_rfl, by kernel_rfl, by kernel_rfl, by kernel_rfl, by kernel_rfl, by kernel_rfl, by kernel_rfl, by kernel_rfl, by kernel_rfl, by kernel_rfl, by kernel_rfl, by kernel_rfl, by kernel_rfl, by kernel_rfl⟩
theorem op_24 (P : Params) : OpC (Mine.hd.heap_39 P) 364 "NoSuchObjectError" := ⟨by kernel_rfl, by kernel_rfl, by kernel_rfl, by kernel_rfl, by kernel_rfl, by kernel_rfl, by kernel_rfl, by kernel_rfl, by kernel_rfl, by kernel_rfl, by kernel_rfl, by kernel_rfl, by kernel_rfl, by kernel_rfl, by kernel_rfl, by kernel_rfl, by kernel_rfl, by kernel_rfl, by kernel_rfl, by kernel_rfl, by kernel_rfl, by kernel_rfl, by kernel_rfl⟩
theorem op_25 (P : Params) : OpC (Mine.hd.heap_39 P) 376 "NoSuchInstanceError" := ⟨by kernel_rfl, by kernel_rfl, by kernel_rfl, by kernel_rfl, by kernel_rfl, by kernel_rfl, by kernel_rfl, by kernel_rfl, by kernel_rfl, by kernel_rfl, by kernel_rfl, by kernel_rfl, by kernel_rfl, by kernel_rfl, by kernel_rfl, by kernel_rfl, by kernel_rfl, by kernel_rfl, by kernel_rfl, by kernel_rfl, by kernel_rfl, by kernel_rfl, by kernel_rfl⟩
theorem op_26 (P : Params) : OpC (Mine.hd.heap_39 P) 388 "EndOfMibViewError" := ⟨by kernel_rfl, by kernel_rfl, by kernel_rfl, by kernel_rfl, by kernel_rfl, by kernel_rfl, by kernel_rfl, by kernel_rfl, by kernel_rfl, by kernel_rfl, by kernel_rfl, by kernel_rfl, by kernel_rfl, by kernel_rfl, by kernel_rfl, by kernel_rfl, by kernel_rfl, by kernel_rfl, by kernel_rfl, by kernel_rfl, by kernel_rfl, by kernel_rfl, by kernel_rfl⟩
theorem op_27 (P : Params) : OpC (Mine.hd.heap_39 P) 400 "TableRowManagement" := ⟨by kernel_rfl, by kernel_rfl, by kernel_rfl, by kernel_rfl, by kernel_rfl, by kernel_rfl, by kernel_rfl, by kernel_rfl, by kernel_rfl, by kernel_rfl, by kernel_rfl, by kernel_rfl, by kernel_rfl, by kernel_rfl, by kernel_rfl, by kernel_rfl, by kernel_rfl, by kernel_rfl, by kernel_rfl, by kernel_rfl, by kernel_rfl, by kernel_rfl, by kernel_rfl⟩
theorem op_28 (P : Params) : OpC (Mine.hd.heap_39 P) 412 "RowCreationWanted" := ⟨by kernel_rfl, by kernel_rfl, by kernel_rfl, by kernel_rfl, by kernel_rfl, by kernel_rfl, by kernel_rfl, by kernel_rfl, by kernel_rfl, by kernel_rfl, by kernel_rfl, by kernel_rfl, by kernel_rfl, by kernel_rfl, by kernel_rfl, by kernel_rfl, by kernel_rfl, by kernel_rfl, by kernel_rfl, by kernel_rfl, by kernel_rfl, by kernel_rfl, by kernel_rfl⟩
theorem op_29 (P : Params) : OpC (Mine.hd.heap_39 P) 424 "RowDestructionWanted" := ⟨by kernel_rfl, by kernel_rfl, by kernel_rfl, by kernel_rfl, by kernel_rfl, by kernel_rfl, by kernel_rfl, by kernel_rfl, by kernel_rfl, by kernel_rfl, by kernel_rfl, by kernel_rfl, by kernel_rfl, by kernel_rfl, by kernel_rfl, by kernel_rfl, by kernel_rfl, by kernel_rfl, by kernel_rfl, by kernel_rfl, by kernel_rfl, by kernel_rfl, by kernel_rfl⟩
theorem op_at (P : Params) {k : Int} (h0 : 5 ≤ k) (h1 : k < 30) : OpC (Mine.hd.heap_39 P) (clsAt k) (nmAt k) := by
  have : k = 5 ∨ k = 6 ∨ k = 7 ∨ k = 8 ∨ k = 9 ∨ k = 10 ∨ k = 11 ∨ k = 12 ∨ k = 13 ∨ k = 14 ∨ k = 15 ∨ k = 16 ∨ k = 17 ∨ k = 18 ∨ k = 19 ∨ k = 20 ∨ k = 21 ∨ k = 22 ∨ k = 23 ∨ k = 24 ∨ k = 25 ∨ k = 26 ∨ k = 27 ∨ k = 28 ∨ k = 29 := by omega
  rcases this with rfl | rfl | rfl | rfl | rfl | rfl | rfl | rfl | rfl | rfl | rfl | rfl | rfl | rfl | rfl | rfl | rfl | rfl | rfl | rfl | rfl | rfl | rfl | rfl | rfl
  · exact op_5 P
  · exact op_6 P
  · exact op_7 P
  · exact op_8 P
  · exact op_9 P
  · exact op_10 P
  · exact op_11 P
  · exact op_12 P
  · exact op_13 P
  · exact op_14 P
  · exact op_15 P
  · exact op_16 P
  · exact op_17 P
  · exact op_18 P
  · exact op_19 P
  · exact op_20 P
  · exact op_21 P
  · exact op_22 P
  · exact op_23 P
  · exact op_24 P
  · exact op_25 P
  · exact op_26 P
  · exact op_27 P
  · exact op_28 P
  · exact op_29 P
end Mine
end

-- N1
section
open PySem PySem.W PySem.Calls PyProof.Rows
set_option maxRecDepth 100000
set_option maxHeartbeats 8000000
namespace Mine
abbrev envL (nms : List (Str × NameKind)) (L fa : Addr) : Env := envOfC (Str.ofString "law") { kind := .function, names := nms, isGenerator := false, isCoroutine := false, more := [] } L fa (.ref 488)

theorem num_call {w : World} {nms : List (Str × NameKind)} {L fa l : Addr} {E : Value → Shared → Prop} {s : Shared} {h₀ : Heap} {m mg mb : Str → Option Value} {news : List (Addr × Obj)} {p : Program} {loose : List Str} {mean : ExcName → Option Value} {Q : Value → Shared → Prop}
    {ns : List Int} {vs : List Value} {k : Int} {t : Tok}
    (hlay : (PyData.list (ns.map PyData.int)).layable0 = true) (hcond : ¬ ((63 : Nat) : Int) < (ns.length : Int))
    (hl : h₀.IsList l vs.toArray) (hI : IntsAre vs ns)
    (X : (Mine.hd.heap_39 w.params).In h₀) (T : Top p loose mean mg mb h₀) (B : Below callerA h₀ [] h₀) (F : Fr h₀ L s.heap m) (N : News h₀ L s.heap news)
    (h0 : 0 ≤ k) (h1 : k < 6)
    (hq : ∀ v t' h' tk', Fr h₀ L h' m → News h₀ L h' news → Q (.int v t') { s with heap := h', toks := tk' }) :
    wpAny (model PySem.Challenge.rw_gr5037_01.row.prog w) (callerA.deeper (envL nms L fa)) (call (.ref 468) [.ref l, .int k t]) Q E s := by
  revert X; k_fill; intro X
  w_strict (
    w_top off
    k_steps
    all_goals exact hq _ _ _ _ (by assumption) (by assumption))

theorem fr_pins {h₀ h : Heap} {L : Addr} {m : Str → Option Value} (ps : List (Str × Value)) (F : Fr h₀ L h m) (hx : ∀ q ∈ ps, m q.1 = some q.2) : Fr h₀ L h (kstB m ps) := by
  have e : kstB m ps = m := by
    funext y
    exact kstB_eq hx fun _ => rfl
  rw [e]; exact F
inductive WordsAre : List Value → List Str → Prop
  | nil : WordsAre [] []
  | cons (x : Str) (t : Tok) {vs : List Value} {xs : List Str} : WordsAre vs xs → WordsAre (.str x t :: vs) (x :: xs)
theorem WordsAre.at {vs : List Value} {xs : List Str} (H : WordsAre vs xs) : ∀ (n : Nat), n < xs.length → ∃ t, vs.getD n .none = .str (xs.getD n "MibOperationError") t := by
  induction H with
  | nil => intro n h; cases h
  | cons x t H ih =>
    intro n h
    cases n with
    | zero => exact ⟨t, rfl⟩
    | succ n => exact ih n (Nat.lt_of_succ_lt_succ h)
theorem WordsAre.len {vs : List Value} {xs : List Str} (H : WordsAre vs xs) : vs.length = xs.length := by
  induction H with
  | nil => rfl
  | cons x t H ih => simp [ih]

def lawDef : Stmt := (PySem.Challenge.pw_gr5037_01.main.body.getLast?).getD (.Pass ⟨0, 0, 0, 0⟩)
def stmtsOf : Stmt → List Stmt
  | .FunctionDef _ _ b _ _ _ _ _ _ _ => b
  | .For _ _ b _ _ => b
  | _ => []
def scopeOf : Stmt → Scope
  | .FunctionDef _ _ _ _ _ _ sc _ _ _ => sc
  | _ => default
def nth : List Stmt → Nat → Stmt
  | [], _ => .Pass ⟨0, 0, 0, 0⟩
  | s :: _, 0 => s
  | _ :: r, n + 1 => nth r n
def lawScope : Scope := scopeOf lawDef
def body2 : List Stmt := stmtsOf (nth (stmtsOf lawDef) 3)
def body2b : List Stmt := body2.drop 3
end Mine
end

-- E8
section
open PySem PySem.W PySem.Calls PyProof.Rows
set_option maxRecDepth 100000
set_option maxHeartbeats 4000000
namespace Mine
section
variable {prog : Program} {w : World} {A : Around} {E : Value → Shared → Prop} {s : Shared} {h₀ : Heap} {L l : Addr} {news : List (Addr × Obj)} {value slice : PySem.Expr} {n : Nat} {k : Int} {u : Tok} {Q : Value → Shared → Prop} {env : Env}
theorem Call_kw {M : Model} {func : Expr} {args : List Expr} {kws : List Keyword} {pos : Pos} (h : wpAny M A (eval func env) (fun f s₁ => wpAny M A (callWith pos f [] (backTo pos (starEach args env)) (backToKw pos (keywordEach kws env))) Q E s₁) E s)
    (he : eval (.Call func args kws pos) env = (eval func env >>= fun f => callWith pos f [] (backTo pos (starEach args env)) (backToKw pos (keywordEach kws env))) := by rfl) :
    wpAny M A (eval (.Call func args kws pos) env) Q E s := by
  rw [he]; exact wpAny_bind h

theorem item_cls (N : News h₀ L s.heap news) (hl : (l, W.listOf (clsA.map Value.ref).toArray n) ∈ news) (h0 : 0 ≤ k) (h1 : k < 30) (h : Q (.ref (clsAt k)) s)
    (hs : subscripted slice false (.ref l) (.int k u) = operate [.ref l, .int k u] (getItem (.ref l) (.int k u)) := by with_unfolding_all rfl) :
    wpAny (model prog w) A (subscriptTail value slice (.ref l) (.int k u)) Q E s := by
  refine item_at N hl h0 (by show k < 30; exact h1) (by omega) ?_ hs
  rw [cls_refs rfl h0 h1]; exact h

theorem item_word {wv : List Value} (N : News h₀ L s.heap news) (hl : (l, W.listOf wv.toArray n) ∈ news) (H : WordsAre wv nameL) (h0 : 0 ≤ k) (h1 : k < 30) (h : ∀ t, Q (.str (nmAt k) t) s)
    (hs : subscripted slice false (.ref l) (.int k u) = operate [.ref l, .int k u] (getItem (.ref l) (.int k u)) := by with_unfolding_all rfl) :
    wpAny (model prog w) A (subscriptTail value slice (.ref l) (.int k u)) Q E s := by
  refine item_at N hl h0 (by rw [H.len]; exact h1) (by omega) ?_ hs
  obtain ⟨t, e⟩ := H.at k.toNat (by show k.toNat < 30; omega)
  rw [e]; exact h t
end
end Mine
end

-- E9
section
open PySem PySem.W PySem.Calls PyProof.Rows
set_option maxRecDepth 100000
set_option maxHeartbeats 4000000
namespace Mine
section
variable {prog : Program} {w : World} {A : Around} {E : Value → Shared → Prop} {s : Shared} {h₀ : Heap} {L : Addr} {m : Str → Option Value} {news : List (Addr × Obj)} {Q : Value → Shared → Prop}
theorem str_keys (h : Heap) : ∀ (k : Str) (key : Value), (PySem.strKind prog w).is k key = true → Reads h key (PyData.str k) [] := fun k key e => by
  obtain ⟨t, rfl⟩ := Value.isStrOf_shape e
  exact Reads.str k t

theorem fmt_dict {kd : Addr} {o : Obj} {kvs : List (Str × Value)} {D : List (PyData × PyData)} (F : Fr h₀ L s.heap m) (N : News h₀ L s.heap news) (hm : (kd, o) ∈ news) (hd : o.IsDictOf (PySem.strKind prog w) kvs) (hf : PyProof.V.FlatPairs PyData.str kvs D)
    (hlo : (kd == sysModules) = false) (hg : A.guards = some []) (hu : A.units + ((PyData.dict D).depth + 2) < cLine) (hs : (PyData.dict D).showable = true) (X : Str) (hX : (PyData.dict D).shown = X) (hsz : X.length ≤ sizeLine)
    (h : ∀ h' u tk, Fr h₀ L h' m → News h₀ L h' news → Q (.str X u) { s with heap := h', toks := tk }) :
    wpAny (model prog w) A (formatField (.ref kd) Str.empty) Q E s := by
  have r : Reads s.heap (.ref kd) (.dict D) [kd] := PyProof.V.reads_dictOf (knd := PySem.strKind prog w) (str_keys s.heap) (Heap.dictOf_iff.mpr ⟨o, (N _ hm).1, hd⟩) (hf.pairsRead s.heap)
  subst hX
  refine formatField_of_reads (hsz := hsz) r hs (fun _ hmem => ?_) hg hu (fun _ _ e => e) fun h' u tk hk => h h' u tk (F.keeps hk) (N.grown hk)
  have : sysModules = kd := List.mem_singleton.mp hmem
  rw [← this] at hlo
  simp at hlo

theorem ne_same {x y : Str} {t u : Tok} (e : x = y) (h : Q (.bool false) s) : wpAny (model prog w) A (compareOp .NotEq (.str x t) (.str y u)) Q E s := by
  subst e
  refine PyProof.Rows.ne_str ?_
  rw [bne_self_eq_false]; exact h
end

def inside1 (text : Str) (place : Int) : Str := Str.ofString "'msg': '" ++ text ++ Str.ofString "', 'idx': " ++ Str.ofString (toString place)

theorem lit1 : Str.ofString "({" = Str.ofString "(" ++ Str.ofString "{" := by decide +kernel
theorem lit2 : Str.ofString "})" = Str.ofString "}" ++ Str.ofString ")" := by decide +kernel
theorem lit3 : Str.ofString "'msg': '" = Str.ofString "'msg'" ++ (Str.ofString ": " ++ Str.ofString "'") := by decide +kernel
theorem lit4 : Str.ofString "', 'idx': " = Str.ofString "'" ++ (Str.ofString ", " ++ (Str.ofString "'idx'" ++ Str.ofString ": ")) := by decide +kernel
theorem lit5 : Str.ofString "({'idx': " = Str.ofString "(" ++ (Str.ofString "{" ++ (Str.ofString "'idx'" ++ Str.ofString ": ")) := by decide +kernel
theorem lit6 : Str.ofString "'idx': " = Str.ofString "'idx'" ++ Str.ofString ": " := by decide +kernel
theorem rep_msg : reprText (Str.ofString "msg") = Str.ofString "'msg'" := by decide +kernel
theorem rep_idx : reprText (Str.ofString "idx") = Str.ofString "'idx'" := by decide +kernel

theorem shown1 {text : Str} {place : Int} (ht : reprText text = Str.ofString "'" ++ text ++ Str.ofString "'") :
    (PyData.dict [(PyData.str (Str.ofString "msg"), PyData.str text), (PyData.str (Str.ofString "idx"), PyData.int place)]).shown = Str.ofString "{" ++ (Str.ofString "'msg': '" ++ text ++ Str.ofString "', 'idx': " ++ Str.ofString (toString place)) ++ Str.ofString "}" := by
  simp only [PyData.shown_dict, PyData.shownKv_cons, PyData.shownKv_nil, PyData.shown_str, PyData.shown_int, ht, rep_msg, rep_idx, lit3, lit4, Str.join, Str.append_assoc]
theorem shown2 {place : Int} :
    (PyData.dict [(PyData.str (Str.ofString "idx"), PyData.int place)]).shown = Str.ofString "{" ++ (Str.ofString "'idx': " ++ Str.ofString (toString place)) ++ Str.ofString "}" := by
  simp only [PyData.shown_dict, PyData.shownKv_cons, PyData.shownKv_nil, PyData.shown_str, PyData.shown_int, rep_idx, lit6, Str.join, Str.append_assoc]

theorem nm_len (k : Int) : (nmAt k).length ≤ sizeLine := by
  have h : ∀ n, n < 30 → (nameL.getD n "MibOperationError").length ≤ 30 := by decide +kernel
  unfold nmAt
  rw [sizeLine_eq]
  by_cases hk : k.toNat < 30
  · have := h _ hk; omega
  · rw [List.getD_eq_getElem?_getD, List.getElem?_eq_none (by show 30 ≤ _; omega)]
    decide +kernel

theorem nm_len30 (k : Int) : (nmAt k).length ≤ 30 := by
  have h : ∀ n, n < 30 → (nameL.getD n "MibOperationError").length ≤ 30 := by decide +kernel
  unfold nmAt
  by_cases hk : k.toNat < 30
  · exact h _ hk
  · rw [List.getD_eq_getElem?_getD, List.getElem?_eq_none (by show 30 ≤ _; omega)]
    decide +kernel
theorem l1 : (Str.ofString "(").length = 1 := by decide +kernel
theorem l2 : (Str.ofString ")").length = 1 := by decide +kernel
theorem l3 : (Str.ofString "{").length = 1 := by decide +kernel
theorem l4 : (Str.ofString "}").length = 1 := by decide +kernel
theorem l5 : (Str.ofString "({").length = 2 := by decide +kernel
theorem l6 : (Str.ofString "})").length = 2 := by decide +kernel
theorem l7 : (Str.ofString "'msg': '").length = 8 := by decide +kernel
theorem l8 : (Str.ofString "', 'idx': ").length = 10 := by decide +kernel
theorem l9 : (Str.ofString "'idx': ").length = 7 := by decide +kernel
theorem l10 : (Str.ofString "({'idx': ").length = 9 := by decide +kernel
theorem l11 : Str.empty.length = 0 := by decide +kernel

theorem eq1 (a b : Str) : Str.empty ++ a ++ Str.ofString "(" ++ (Str.ofString "{" ++ b ++ Str.ofString "}") ++ Str.ofString ")" = a ++ Str.ofString "({" ++ b ++ Str.ofString "})" := by
  simp only [lit1, lit2, Str.append_assoc, Str.empty_append]
theorem eq2 (a p : Str) : Str.empty ++ a ++ Str.ofString "(" ++ (Str.ofString "{" ++ (Str.ofString "'idx': " ++ p) ++ Str.ofString "}") ++ Str.ofString ")" = a ++ Str.ofString "({'idx': " ++ p ++ Str.ofString "})" := by
  simp only [lit2, lit5, lit6, Str.append_assoc, Str.empty_append]
theorem len_int {place : Int} (h0 : 0 ≤ place) (h1 : place < 200) : (Str.ofString (toString place)).length ≤ 3 := by
  have h : ∀ n : Nat, n < 200 → (Str.ofString (toString (n : Int))).length ≤ 3 := by decide +kernel
  have := h place.toNat (by omega)
  rwa [Int.toNat_of_nonneg h0] at this
theorem len1 {text : Str} {place : Int} (ht : text.length ≤ 7) (h0 : 0 ≤ place) (h1 : place < 100) :
    (Str.ofString "{" ++ (Str.ofString "'msg': '" ++ text ++ Str.ofString "', 'idx': " ++ Str.ofString (toString place)) ++ Str.ofString "}").length ≤ sizeLine := by
  have a := len_int h0 (by omega)
  have b1 : (Str.ofString "{").length = 1 := by decide +kernel
  have b2 : (Str.ofString "'msg': '").length = 8 := by decide +kernel
  have b3 : (Str.ofString "', 'idx': ").length = 10 := by decide +kernel
  have b4 : (Str.ofString "}").length = 1 := by decide +kernel
  simp only [Str.length_append]
  rw [sizeLine_eq]; omega
theorem len2 {place : Int} (h0 : 0 ≤ place) (h1 : place < 200) :
    (Str.ofString "{" ++ (Str.ofString "'idx': " ++ Str.ofString (toString place)) ++ Str.ofString "}").length ≤ sizeLine := by
  have a := len_int h0 h1
  have b1 : (Str.ofString "{").length = 1 := by decide +kernel
  have b2 : (Str.ofString "'idx': ").length = 7 := by decide +kernel
  have b4 : (Str.ofString "}").length = 1 := by decide +kernel
  simp only [Str.length_append]
  rw [sizeLine_eq]; omega
theorem show1 {text : Str} {place : Int} (h0 : 0 ≤ place) (h1 : place < 200) : (PyData.dict [(PyData.str (Str.ofString "msg"), PyData.str text), (PyData.str (Str.ofString "idx"), PyData.int place)]).showable = true := by
  have h : place.natAbs.log2 < 1920 := by
    have : place.natAbs.log2 ≤ place.natAbs := Nat.log2_le_self _
    omega
  simp [PyData.showable, PyData.showableKv, h]
theorem show2 {place : Int} (h0 : 0 ≤ place) (h1 : place < 200) : (PyData.dict [(PyData.str (Str.ofString "idx"), PyData.int place)]).showable = true := by
  have h : place.natAbs.log2 < 1920 := by
    have : place.natAbs.log2 ≤ place.natAbs := Nat.log2_le_self _
    omega
  simp [PyData.showable, PyData.showableKv, h]
end Mine
end

-- E10
section
open PySem PySem.W PySem.Calls PyProof.Rows
set_option maxRecDepth 100000
set_option maxHeartbeats 4000000
namespace Mine
section
variable {prog : Program} {w : World} {A : Around} {E : Value → Shared → Prop} {s : Shared} {h₀ : Heap} {L a b : Addr} {news : List (Addr × Obj)} {Q : Value → Shared → Prop}
theorem ne_reads {d : PyData} {as bs : List Addr} (ra : Reads s.heap (.ref a) d as) (rb : Reads s.heap (.ref b) d bs) (hs : SeqAt.shaped d = true) (he : PyData.eqv d d = true) (hu : A.units + 64 < cLine) (h : Q (.bool false) s) :
    wpAny (model prog w) A (compareOp .NotEq (.ref a) (.ref b)) Q E s :=
  ne_dataH ra rb hs hs hu (by rw [he]; exact h)
theorem ne_list2 {x y : Str} {t1 t2 t3 t4 : Tok} {n1 n2 : Nat} (N : News h₀ L s.heap news) (ha : (a, W.listOf [Value.str x t1, Value.str y t2].toArray n1) ∈ news) (hb : (b, W.listOf [Value.str x t3, Value.str y t4].toArray n2) ∈ news)
    (hx : PyData.strOk x = true) (hy : PyData.strOk y = true) (hu : A.units + 64 < cLine) (h : Q (.bool false) s) : wpAny (model prog w) A (compareOp .NotEq (.ref a) (.ref b)) Q E s :=
  ne_reads (d := .list [.str x, .str y]) (reads_list_at (N _ ha).1 rfl rfl (.cons (.str x t1) (.cons (.str y t2) .nil))) (reads_list_at (N _ hb).1 rfl rfl (.cons (.str x t3) (.cons (.str y t4) .nil)))
    (by simp [SeqAt.shaped, PyData.canLay0, PyData.canLayAll0, PyData.depth, PyData.depthAll, hx, hy]) (by simp [PyData.eqv, PyData.eqvAll]) hu h
theorem ne_list1 {x : Str} {t1 t3 : Tok} {n1 n2 : Nat} (N : News h₀ L s.heap news) (ha : (a, W.listOf [Value.str x t1].toArray n1) ∈ news) (hb : (b, W.listOf [Value.str x t3].toArray n2) ∈ news)
    (hx : PyData.strOk x = true) (hu : A.units + 64 < cLine) (h : Q (.bool false) s) : wpAny (model prog w) A (compareOp .NotEq (.ref a) (.ref b)) Q E s :=
  ne_reads (d := .list [.str x]) (reads_list_at (N _ ha).1 rfl rfl (.cons (.str x t1) .nil)) (reads_list_at (N _ hb).1 rfl rfl (.cons (.str x t3) .nil))
    (by simp [SeqAt.shaped, PyData.canLay0, PyData.canLayAll0, PyData.depth, PyData.depthAll, hx]) (by simp [PyData.eqv, PyData.eqvAll]) hu h
theorem ne_tup2 {x y : Int} {t1 t2 t3 t4 : Tok} (N : News h₀ L s.heap news) (ha : (a, tupObj [Value.int x t1, Value.int y t2]) ∈ news) (hb : (b, tupObj [Value.int x t3, Value.int y t4]) ∈ news)
    (hu : A.units + 64 < cLine) (h : Q (.bool false) s) : wpAny (model prog w) A (compareOp .NotEq (.ref a) (.ref b)) Q E s :=
  ne_reads (d := .tuple [.int x, .int y]) (reads_tuple_at (N _ ha).1 rfl rfl (.cons (.int x t1) (.cons (.int y t2) .nil))) (reads_tuple_at (N _ hb).1 rfl rfl (.cons (.int x t3) (.cons (.int y t4) .nil)))
    (by simp [SeqAt.shaped, PyData.canLay0, PyData.canLayAll0, PyData.depth, PyData.depthAll]) (by simp [PyData.eqv, PyData.eqvAll]) hu h
theorem ne_int_same {x : Int} {t u : Tok} (h : Q (.bool false) s) : wpAny (model prog w) A (compareOp .NotEq (.int x t) (.int x u)) Q E s := by
  refine ne_int ?_
  simpa using h
end
end Mine
end

-- E11
section
open PySem PySem.W PySem.Calls PyProof.Rows
set_option maxRecDepth 100000
set_option maxHeartbeats 4000000
namespace Mine
section
variable {prog : Program} {w : World} {A₀ : Around} {E : Value → Shared → Prop} {s' : Shared} {h₀ h : Heap} {outer : List Env} {L a e : Addr} {m mg mb : Str → Option Value} {cn : Str} {cs : Scope} {ccd : Value} {cl : List (Str × Addr)}
  {b₀ : Stmt} {suite : List Stmt} {pos np : Pos} {rest : List ExceptHandler} {Q : Flow → Shared → Prop} {news : List (Addr × Obj)} {p : Program} {loose : List Str} {K : Frag}

theorem caught_key (hst : A₀.frames = some outer) (F : Fr h₀ L h m) (hsm : h.UpToSlots s'.heap) (R : RaisedN h₀ (envX cn cs L a ccd cl :: outer) e (.type "KeyError") news s'.heap) (X : K.In h₀) (T : TopRead p loose mg mb h₀)
    (he : nsIn K mainGlobals "KeyError" = some none) (hkind : cs.kind = .function) (hx : (envX cn cs L a ccd cl).kindOf "KeyError" = some .globalImplicit)
    (k : ∀ h', Fr h₀ L h' m → News h₀ L h' news →
      wpAny (model prog w) ((A₀.deeper (envX cn cs L a ccd cl)).mark (some (.ref e))) (execs (b₀ :: suite) (envX cn cs L a ccd cl)) Q (fun _ _ => False) { s' with heap := h' }) :
    wpAny (model prog w) (A₀.deeper (envX cn cs L a ccd cl)) (noteFrame (.ref e) (envX cn cs L a ccd cl))
      (fun _ s₂ => wpAny (model prog w) (A₀.deeper (envX cn cs L a ccd cl)) (setFlight (.ref e) none) (fun _ s₃ =>
        wpAny (model prog w) (A₀.deeper (envX cn cs L a ccd cl)) (handleBy (.ref e) (envX cn cs L a ccd cl) (.ExceptHandler (some (.Name "KeyError" np)) none (b₀ :: suite) pos :: rest)) Q E s₃) E s₂) E s' := by
  obtain ⟨B, a0, hB, hl, hfl⟩ := R
  have hL : B.get? L = none := by
    obtain ⟨_, ⟨L', _, hf, hn', _⟩, _⟩ := hfl.2.2.1
    obtain rfl : L = L' := Option.some.inj hf
    exact hn'
  refine wpAny_looks_onW (Around.frames_deeper hst) rfl hfl fun h₄ hheld₄ hsm₄ => ?_
  refine wpAny_landsW hheld₄ fun h₅ hheld hsm₅' => ?_
  have hsm₅ := hsm₄.trans hsm₅'
  have hheld' := flyingW_base hB hheld
  have F₅ := F.of_stays hheld'.1 (hsm.trans hsm₅)
  obtain ⟨ob, hob, hobc⟩ := hheld'.there
  refine wpAny_handleBy_builtin (X := "KeyError") (T := "KeyError") (b := true) kr_isExc_KeyError kr_notTuple_KeyError (by rw [isSubtype_type]; kernel_rfl) (nameX_B F₅ X T he PyProof.Rows.Boot.«KeyError» (by decide) ⟨rfl, ⟨ob, hob, hobc⟩, ?_⟩ hkind hx (by decide))
  refine lands_againW hheld fun h₆ hfl₆ hsm₆ => ?_
  have hfl₆' := flyingW_base hB hfl₆
  have F₆ := F.of_stays hfl₆'.1 ((hsm.trans hsm₅).trans hsm₆)
  exact wpAny_mono (k h₆ F₆ fun q hq => ⟨hfl₆.1 _ _ (hl q hq).1, (fun z => by have := (hl q hq).1; rw [z, hL] at this; cases this), (hl q hq).2⟩) (fun _ _ q => q) fun _ _ q => q.elim
end
end Mine
end

-- E12
section
open PySem PySem.W PySem.Calls PyProof.Rows
set_option maxRecDepth 100000
set_option maxHeartbeats 4000000
namespace Mine
section
variable {prog : Program} {w : World} {A : Around} {E : Value → Shared → Prop} {s : Shared} {h₀ : Heap} {L d d2 : Addr} {m : Str → Option Value} {news : List (Addr × Obj)} {g : Obj → List (Addr × Obj)} {o o2 : Obj} {kvs more : List (Str × Value)} {x : Str} {t : Tok} {v : Value}

theorem dict_at (N : News h₀ L s.heap news) (hm : (d, o) ∈ news) (hd : o.IsDictOf (PySem.strKind prog w) kvs) : s.heap.DictOf (PySem.strKind prog w) d kvs := Heap.dictOf_iff.mpr ⟨o, (N _ hm).1, hd⟩

theorem upd_dict {kv2 : List (Str × Value)} {Q : Value → Shared → Prop} (F : Fr h₀ L s.heap m) (N : News h₀ L s.heap news) (U : UpdF d o news g) (hm : (d2, o2) ∈ news) (hd : o.IsDictOf (PySem.strKind prog w) kvs) (hd2 : o2.IsDictOf (PySem.strKind prog w) more) (hne : d ≠ d2) (hS : (d2 == sysModules) = false)
    (hsz : kvs.length + more.length ≤ sizeLine) (hk : merged kvs more = kv2)
    (h : ∀ h' o', Fr h₀ L h' m → News h₀ L h' (g o') → o'.IsDictOf (PySem.strKind prog w) kv2 → Q .none { s with heap := h' }) :
    wpAny (model prog w) A (call (.builtin "dict.update") [.ref d, .ref d2]) Q E s := by
  subst hk
  obtain ⟨pre, post, rfl, hg, a, b⟩ := U.split
  have hmd := N (d, o) (List.mem_append_right _ (.head _))
  have H1 : s.heap.DictOf (PySem.strKind prog w) d kvs := Heap.dictOf_iff.mpr ⟨o, hmd.1, hd⟩
  have H2 : s.heap.DictOf (PySem.strKind prog w) d2 more := dict_at N hm hd2
  refine call_meetsIn PySem.F.slot_dict_update H1.typeIs PySem.F.entry_dict_update (PySem.F.args_dict_update_2 _ _) (meets_dict_update (PySem.strKind prog w) d d2 hne hS) ⟨kvs, more, H1, H2, hsz, fun h' hd' _ hs => ?_⟩
  obtain ⟨o', ho', hd'⟩ := Heap.dictOf_iff.mp hd'
  exact h h' o' (F.change hs hmd.2.1 hmd.2.2) (hg o' ▸ N.setIn a b hs ho') hd'

theorem set_dictN {Q : Unit → Shared → Prop} (F : Fr h₀ L s.heap m) (N : News h₀ L s.heap news) (U : UpdF d o news g) (hd : o.IsDictOf (PySem.strKind prog w) kvs) (hsz : kvs.length ≤ sizeLine)
    (h : ∀ h' o', Fr h₀ L h' m → News h₀ L h' (g o') → o'.IsDictOf (PySem.strKind prog w) (stored kvs x v) → Q () { s with heap := h', toks := s.toks + 1 }) :
    wpAny (model prog w) A (setItem (.ref d) (.str x t) v) Q E s := by
  obtain ⟨pre, post, rfl, hg, a, b⟩ := U.split
  have hmd := N (d, o) (List.mem_append_right _ (.head _))
  have H1 : s.heap.DictOf (PySem.strKind prog w) d kvs := Heap.dictOf_iff.mpr ⟨o, hmd.1, hd⟩
  refine wpAny_setItem_pairs (hsz := hsz) (strKind_is prog w x t) H1 fun h' hd' hs => ?_
  obtain ⟨o', ho', hd'⟩ := Heap.dictOf_iff.mp hd'
  exact h h' o' (F.change hs hmd.2.1 hmd.2.2) (hg o' ▸ N.setIn a b hs ho') hd'

theorem get_dictN {Q : Value → Shared → Prop} (N : News h₀ L s.heap news) (hm : (d, o) ∈ news) (hd : o.IsDictOf (PySem.strKind prog w) kvs) (hv : valueAt kvs x = some v) (h : Q v { s with toks := s.toks + 1 }) :
    wpAny (model prog w) A (getItem (.ref d) (.str x t)) Q E s :=
  wpAny_getItem_of (strKind_is prog w x t) (dict_at N hm hd).mapOf hv h
theorem tail_dictN {value slice : Expr} {Q : Value → Shared → Prop} (N : News h₀ L s.heap news) (hm : (d, o) ∈ news) (hd : o.IsDictOf (PySem.strKind prog w) kvs) (hv : valueAt kvs x = some v) (h : Q v { s with toks := s.toks + 1 })
    (hs : subscripted slice false (.ref d) (.str x t) = operate [.ref d, .str x t] (getItem (.ref d) (.str x t)) := by with_unfolding_all rfl) :
    wpAny (model prog w) A (subscriptTail value slice (.ref d) (.str x t)) Q E s :=
  tail_any (dict_at N hm hd).typeIs slot_dict_getitem.lookup (get_dictN N hm hd hv h) hs
theorem in_dictN {Q : Value → Shared → Prop} {b : Bool} (N : News h₀ L s.heap news) (hm : (d, o) ∈ news) (hd : o.IsDictOf (PySem.strKind prog w) kvs) (hS : (d == sysModules) = false) (hb : (valueAt kvs x).isSome = b) (h : Q (.bool b) { s with toks := s.toks + 1 }) :
    wpAny (model prog w) A (compareOp .In (.str x t) (.ref d)) Q E s :=
  wpAny_in_of (strKind_is prog w x t) hS (dict_at N hm hd).mapOf (by rw [hb]; exact h)
end
end Mine
end

-- E13
section
open PySem PySem.W PySem.Calls PyProof.Rows Builtin Builtin.ObjectAttr
set_option maxRecDepth 100000
set_option maxHeartbeats 4000000
namespace Mine
section
variable {prog : Program} {w : World} {A : Around} {E : Value → Shared → Prop} {s : Shared} {K : Frag} {x C D : Addr} {ox : Obj} {od : Option Obj} {name : Str}

theorem findObj_dataO {a g : Value} (hc : (clsIn K C).isSome = true) (ha : findIn K (.ref C) name = some (some a)) (hg : specialIn K a "__get__" = some (some g)) (ht : takesIn K a = some true) : findObj K C od name = some (.bind g a) := by
  obtain ⟨cd, hc⟩ := Option.isSome_iff_exists.mp hc
  unfold findObj
  rw [hc, Option.bind_some, ha, Option.bind_some]
  simp [hg, ht]

theorem try_openE {Q : Option Value → Shared → Prop} (X : K.In s.heap) (I : InstAt s.heap x ox C od) (hga : findIn K (.ref C) "__getattribute__" = some (some (.builtin "BaseException.__getattribute__")))
    (hb : subIn K (.ref C) (.type "BaseException") = some true) (hk : findIn K (.ref C) "__getattr__" = some none)
    (h : wpAny (model prog w) A.in1 (Builtin.«object.__getattribute__» ⟨[.ref x, .str name s.toks], []⟩)
      (fun fin s' => match fin with | .done (.ret v) => wpAny (model prog w) A (handedOut v) (fun v s'' => Q (some v) s'') (fun _ _ => False) s' | _ => False) (fun _ _ => False) { s with toks := s.toks + 1 }) :
    wpAny (model prog w) A (getAttr? (.ref x) name) Q E s := by
  obtain ⟨hh, g, d, t, os⟩ := s
  have L0 := I.type (M := model prog w)
  have L1 := looks_findIn (M := model prog w) X hga
  have L2 := looks_findIn (M := model prog w) X hk
  unfold getAttr? getAttrBy? getAttrBy
  refine wpAny_bind (wpAny_mkText (wpAny_bind (wpAny_attempt (wpAny_holding (wpAny_bind (L0.at (wpAny_bind (L1.at ?_))))))))
  dsimp only
  rw [show (onTheHeap (.ref C) && Value.builtin "BaseException.__getattribute__" == Value.builtin "object.__getattribute__") = false from by rw [show (Value.builtin "BaseException.__getattribute__" == Value.builtin "object.__getattribute__") = false from by decide +kernel, Bool.and_false], if_neg (by decide)]
  unfold getAttrByItsOwn hookBefore
  rw [if_pos (show onTheHeap (.ref C) = true from rfl)]
  refine wpAny_bind (L2.at (wpAny_bind (wpAny_attempt (wpAny_holding ?_))))
  unfold callGetattribute
  rw [show (false && onTheHeap (Value.builtin "BaseException.__getattribute__")) = false from rfl, if_neg (by decide)]
  unfold boundAndCalled
  rw [PySem.F.attr_Exception.ga.bind]
  refine wpAny_bind (wpAny_pure ?_)
  show wpAny _ _ (call (.builtin "BaseException.__getattribute__") [.ref x, .str name t]) _ _ _
  refine wpAny_call ?_
  refine codeAny_call_builtin PySem.F.attr_Exception.ga.plain PySem.F.entry_bexc_ga ?_
  refine @check_slot (model prog w) _ _ { heap := hh, gens := g, drawn := d, toks := t + 1, os := os } "BaseException.__getattribute__" "BaseException" "__getattribute__" (.ref x) [.str name t] [] _ ga_kind ga_split (L0.andThen (looks_subIn X hb)) (PySem.F.args_bexc_ga (.ref x) (.str name t)) ?_
  refine wpAny_mono h (fun fin s' z => ?_) fun _ _ z => z.elim
  rcases fin with (_ | _ | _ | _) | _ <;> first | exact z.elim | skip
  exact wpAny_mono z (fun v s'' hv => wpAny_pure hv) fun _ _ z => z.elim

theorem try_classE {Q : Option Value → Shared → Prop} (X : K.In s.heap) (I : InstAt s.heap x ox C od) (hga : findIn K (.ref C) "__getattribute__" = some (some (.builtin "BaseException.__getattribute__")))
    (hb : subIn K (.ref C) (.type "BaseException") = some true) (hk : findIn K (.ref C) "__getattr__" = some none)
    (hc : (clsIn K C).isSome = true) (ha : findIn K (.ref C) "__class__" = some (some (.builtin "object.__class__"))) (hn : specialIn K (.builtin "object.__class__") "__get__" = some (some (.builtin "getset_descriptor.__get__"))) (ht : takesIn K (.builtin "object.__class__") = some true)
    (hm : mroIn K C (.type "object") = some true) (h : Q (some (.ref C)) { s with toks := s.toks + 1 }) : wpAny (model prog w) A (getAttr? (.ref x) "__class__") Q E s := by
  refine try_openE X I hga hb hk ?_
  have hf : findObj K C od "__class__" = some (.bind (.builtin "getset_descriptor.__get__") (.builtin "object.__class__")) := findObj_dataO hc ha hn ht
  have L0 := I.type (M := model prog w)
  have L1 := looks_find (M := model prog w) X I hf
  refine wpAny_bind (wpAny_pure (wpAny_bind (wpAny_pure (wpAny_bind (L0.keeps (fun _ _ e => e) |>.at (wpAny_bind (L1.at ?_)))))))
  refine wpAny_bind (wpAny_holding (wpAny_call (class_get (s := { s with toks := s.toks + 1 }) (ox := ox) (od := od) X I hm ?_)))
  refine wpAny_pure ?_
  show wpAny _ _ (handedOut (.ref C)) _ _ _
  rw [handedOut_of rfl]; exact wpAny_pure h

/-- what the isinstance of an exception needs of its class -/
structure IsiC (K : Frag) (C : Addr) : Prop where
  ga : findIn K (.ref C) "__getattribute__" = some (some (.builtin "BaseException.__getattribute__"))
  gt : findIn K (.ref C) "__getattr__" = some none
  base : subIn K (.ref C) (.type "BaseException") = some true
  hasC : (clsIn K C).isSome = true
  cls : findIn K (.ref C) "__class__" = some (some (.builtin "object.__class__"))
  objm : mroIn K C (.type "object") = some true
  typ : typeIn K (.ref C) = some (.type "type")
  inst : instIn K (.ref C) (.type "type") = some true

theorem isT {M : Model} {h : Heap} (X : K.In h) (e : (clsIn K C).isSome = true) : Looks M h (isType (.ref C)) true := by
  obtain ⟨cd, hc⟩ := Option.isSome_iff_exists.mp e
  unfold clsIn at hc
  split at hc
  · rename_i c' d' cd' sl' ho
    intro A' Q' E' s' k q
    unfold isType loadHead
    exact wpAny_bind (wpAny_loadPart (k _ _ (X _ _ ho)) (wpAny_pure q))
  · cases hc

theorem isi_falseE {dep : Int} {tk : Tok} {Q : Fin → Shared → Prop} (X : K.In s.heap) (I : InstAt s.heap x ox C od) (hC : IsiC K C) (hD : IsiC K D) (hn : specialIn K (.builtin "object.__class__") "__get__" = some (some (.builtin "getset_descriptor.__get__"))) (ht : takesIn K (.builtin "object.__class__") = some true)
    (hs : mroIn K C (.ref D) = some false) (hne : (Value.ref C == Value.ref D) = false) (h : Q (.done (.ret (.bool false))) { s with toks := s.toks + 1 }) :
    wpAny (model prog w) A (Builtin.«isinstance.nested» ⟨[.ref x, .ref D, .int dep tk], []⟩) Q E s := by
  have isC := isT (M := model prog w) X hC.hasC
  have isD := isT (M := model prog w) X hD.hasC
  have hsub : Looks (model prog w) s.heap (isSubtype (.ref C) (.ref D)) false := looks_mroIn X hs
  have hty : Looks (model prog w) s.heap (typeOf (.ref D)) (.type "type") := looks_typeIn X hD.typ
  obtain ⟨h0, g, d, tt, os⟩ := s
  have L0 := I.type (M := model prog w)
  have LI : Looks (model prog w) h0 (isInstance (.ref x) (.ref D)) false := L0.andThen hsub
  unfold Builtin.«isinstance.nested»
  refine wpAny_bind (L0.at ?_)
  rw [if_neg (fun q => by rw [hne] at q; exact Bool.noConfusion q)]
  refine wpAny_bind (hty.at ?_)
  rw [if_pos (by decide)]
  k_delta "plainIsInstance"
  refine wpAny_bind (wpAny_bind (isD.at ?_))
  simp only [Bool.not_true, Bool.false_eq_true, if_false]
  refine wpAny_bind (LI.at ?_)
  simp only [Bool.false_eq_true, if_false]
  refine wpAny_bind (try_classE X I hC.ga hC.base hC.gt hC.hasC hC.cls hn ht hC.objm ?_)
  refine wpAny_bind (isC.at ?_)
  simp only [Bool.not_true, Bool.false_eq_true, if_false]
  refine wpAny_bind (wpAny_rule ?_)
  refine hsub.at ?_
  first
    | exact wpAny_pure h
    | exact wpAny_pure (wpAny_pure h)
    | exact wpAny_bind (wpAny_pure (wpAny_pure h))

theorem isi_callE {Q : Value → Shared → Prop} {b : Bool} (X : K.In s.heap) (I : InstAt s.heap x ox C od) (hC : IsiC K C) (hD : IsiC K D) (hn : specialIn K (.builtin "object.__class__") "__get__" = some (some (.builtin "getset_descriptor.__get__"))) (ht : takesIn K (.builtin "object.__class__") = some true)
    (hs : mroIn K C (.ref D) = some b) (hne : C ≠ D ∨ b = true) (h : ∀ tk, Q (.bool b) { s with toks := tk }) : wpAny (model prog w) A (call (.builtin "isinstance") [.ref x, .ref D]) Q E s := by
  cases b with
  | true =>
    refine isi_call X (t := .ref C) (fun M => I.type) ?_ (by intro q; cases q) (h s.toks)
    unfold isIn
    rw [hD.hasC, hD.typ, hD.inst]
    have : subIn K (.ref C) (.ref D) = some true := hs
    rw [this]
    simp
  | false =>
    have hne : (Value.ref C == Value.ref D) = false := Bool.eq_false_iff.mpr fun q => (hne.resolve_right (by decide)) (Value.ref.inj (beq_iff_eq.mp q))
    exact call_isinstance (S := fun _ R s => (K.In s.heap ∧ InstAt s.heap x ox C od) ∧ R (.ok (.ret (.bool false))) { s with toks := s.toks + 1 })
      (fun _ _ _ _ _ q => isinstance_outer (isi_falseE q.1.1 q.1.2 hC hD hn ht hs hne q.2) (by intro q; cases q)) ⟨⟨X, I⟩, h _⟩
end
end Mine
end

-- E14
section
open PySem PySem.W PySem.Calls PyProof.Rows
set_option maxRecDepth 100000
set_option maxHeartbeats 4000000
namespace Mine
def mroK (K : Frag) (C : Addr) : Option (List Value) := (clsIn K C).map (·.mro)
def kinN : List (List Nat) := [[0], [1], [2, 0, 1], [3, 2, 0, 1], [4, 3, 2, 0, 1], [5, 2, 0, 1], [6, 5, 2, 0, 1], [7, 5, 2, 0, 1], [8, 5, 2, 0, 1], [9, 5, 2, 0, 1], [10, 5, 2, 0, 1], [11, 5, 2, 0, 1], [12, 5, 2, 0, 1], [13, 5, 2, 0, 1], [14, 5, 2, 0, 1], [15, 5, 2, 0, 1], [16, 5, 2, 0, 1], [17, 5, 2, 0, 1], [18, 5, 2, 0, 1], [19, 5, 2, 0, 1], [20, 5, 2, 0, 1], [21, 5, 2, 0, 1], [22, 5, 2, 0, 1], [23, 5, 2, 0, 1], [24, 7, 5, 2, 0, 1], [25, 7, 5, 2, 0, 1], [26, 7, 5, 2, 0, 1], [27, 5, 2, 0, 1], [28, 27, 5, 2, 0, 1], [29, 27, 5, 2, 0, 1]]
def mroA (k : Nat) : List Value := (kinN.getD k []).map (fun j => Value.ref (clsA.getD j 0)) ++ [.type "Exception", .type "BaseException", .type "object"]
structure FirstC (K : Frag) (C : Addr) : Prop where
  exc : excIn K C = true
  keep : keepIn K (.ref C) = true
  init : findIn K (.ref C) "__init__" = some (some (.builtin "Exception.__init__"))
  ga : findIn K (.ref C) "__getattribute__" = some (some (.builtin "BaseException.__getattribute__"))
  gt : findIn K (.ref C) "__getattr__" = some none
  base : subIn K (.ref C) (.type "BaseException") = some true
  hasC : (clsIn K C).isSome = true
  cls : findIn K (.ref C) "__class__" = some (some (.builtin "object.__class__"))
  objm : mroIn K C (.type "object") = some true
  str : findIn K (.ref C) "__str__" = some (some (.builtin "BaseException.__str__"))
  typ : typeIn K (.ref C) = some (.type "type")
theorem mro_0 (P : Params) : mroK (Mine.hd.heap_39 P) 24 = some (mroA 0) := by kernel_rfl
theorem mro_1 (P : Params) : mroK (Mine.hd.heap_39 P) 37 = some (mroA 1) := by kernel_rfl
theorem mro_2 (P : Params) : mroK (Mine.hd.heap_39 P) 50 = some (mroA 2) := by kernel_rfl
theorem mro_3 (P : Params) : mroK (Mine.hd.heap_39 P) 62 = some (mroA 3) := by kernel_rfl
theorem mro_4 (P : Params) : mroK (Mine.hd.heap_39 P) 74 = some (mroA 4) := by kernel_rfl
theorem mro_5 (P : Params) : mroK (Mine.hd.heap_39 P) 136 = some (mroA 5) := by kernel_rfl
theorem mro_6 (P : Params) : mroK (Mine.hd.heap_39 P) 148 = some (mroA 6) := by kernel_rfl
theorem mro_7 (P : Params) : mroK (Mine.hd.heap_39 P) 160 = some (mroA 7) := by kernel_rfl
theorem mro_8 (P : Params) : mroK (Mine.hd.heap_39 P) 172 = some (mroA 8) := by kernel_rfl
theorem mro_9 (P : Params) : mroK (Mine.hd.heap_39 P) 184 = some (mroA 9) := by kernel_rfl
theorem mro_10 (P : Params) : mroK (Mine.hd.heap_39 P) 196 = some (mroA 10) := by kernel_rfl
theorem mro_11 (P : Params) : mroK (Mine.hd.heap_39 P) 208 = some (mroA 11) := by kernel_rfl
theorem mro_12 (P : Params) : mroK (Mine.hd.heap_39 P) 220 = some (mroA 12) := by kernel_rfl
theorem mro_13 (P : Params) : mroK (Mine.hd.heap_39 P) 232 = some (mroA 13) := by kernel_rfl
theorem mro_14 (P : Params) : mroK (Mine.hd.heap_39 P) 244 = some (mroA 14) := by kernel_rfl
theorem mro_15 (P : Params) : mroK (Mine.hd.heap_39 P) 256 = some (mroA 15) := by kernel_rfl
theorem mro_16 (P : Params) : mroK (Mine.hd.heap_39 P) 268 = some (mroA 16) := by kernel_rfl
theorem mro_17 (P : Params) : mroK (Mine.hd.heap_39 P) 280 = some (mroA 17) := by kernel_rfl
theorem mro_18 (P : Params) : mroK (Mine.hd.heap_39 P) 292 = some (mroA 18) := by kernel_rfl
theorem mro_19 (P : Params) : mroK (Mine.hd.heap_39 P) 304 = some (mroA 19) := by kernel_rfl
theorem mro_20 (P : Params) : mroK (Mine.hd.heap_39 P) 316 = some (mroA 20) := by kernel_rfl
theorem mro_21 (P : Params) : mroK (Mine.hd.heap_39 P) 328 = some (mroA 21) := by kernel_rfl
theorem mro_22 (P : Params) : mroK (Mine.hd.heap_39 P) 340 = some (mroA 22) := by kernel_rfl
theorem mro_23 (P : Params) : mroK (Mine.hd.heap_39 P) 352 = some (mroA 23) := by kernel_rfl
theorem mro_24 (P : Params) : mroK (Mine.hd.heap_39 P) 364 = some (mroA 24) := by kernel_rfl
theorem mro_25 (P : Params) : mroK (Mine.hd.heap_39 P) 376 = some (mroA 25) := by kernel_rfl
theorem mro_26 (P : Params) : mroK (Mine.hd.heap_39 P) 388 = some (mroA 26) := by kernel_rfl
theorem mro_27 (P : Params) : mroK (Mine.hd.heap_39 P) 400 = some (mroA 27) := by kernel_rfl
theorem mro_28 (P : Params) : mroK (Mine.hd.heap_39 P) 412 = some (mroA 28) := by kernel_rfl
theorem mro_29 (P : Params) : mroK (Mine.hd.heap_39 P) 424 = some (mroA 29) := by kernel_rfl
theorem first_0 (P : Params) : FirstC (Mine.hd.heap_39 P) 24 := ⟨by kernel_rfl, by kernel_rfl, by kernel_rfl, by kernel_rfl, by kernel_rfl, by kernel_rfl, by kernel_rfl, by kernel_rfl, by kernel_rfl, by kernel_rfl, by kernel_rfl⟩
theorem first_1 (P : Params) : FirstC (Mine.hd.heap_39 P) 37 := ⟨by kernel_rfl, by kernel_rfl, by kernel_rfl, by kernel_rfl, by kernel_rfl, by kernel_rfl, by kernel_rfl, by kernel_rfl, by kernel_rfl, by kernel_rfl, by kernel_rfl⟩
theorem first_2 (P : Params) : FirstC (Mine.hd.heap_39 P) 50 := ⟨by kernel_rfl, by kernel_rfl, by kernel_rfl, by kernel_rfl, by kernel_rfl, by kernel_rfl, by kernel_rfl, by kernel_rfl, by kernel_rfl, by kernel_rfl, by kernel_rfl⟩
theorem first_3 (P : Params) : FirstC (Mine.hd.heap_39 P) 62 := ⟨by kernel_rfl, by kernel_rfl, by kernel_rfl, by kernel_rfl, by kernel_rfl, by kernel_rfl, by kernel_rfl, by kernel_rfl, by kernel_rfl, by kernel_rfl, by kernel_rfl⟩
theorem first_4 (P : Params) : FirstC (Mine.hd.heap_39 P) 74 := ⟨by kernel_rfl, by kernel_rfl, by kernel_rfl, by kernel_rfl, by kernel_rfl, by kernel_rfl, by kernel_rfl, by kernel_rfl, by kernel_rfl, by kernel_rfl, by kernel_rfl⟩
theorem mro_at (P : Params) {k : Int} (h0 : 0 ≤ k) (h1 : k < 30) : mroK (Mine.hd.heap_39 P) (clsAt k) = some (mroA k.toNat) := by
  have : k = 0 ∨ k = 1 ∨ k = 2 ∨ k = 3 ∨ k = 4 ∨ k = 5 ∨ k = 6 ∨ k = 7 ∨ k = 8 ∨ k = 9 ∨ k = 10 ∨ k = 11 ∨ k = 12 ∨ k = 13 ∨ k = 14 ∨ k = 15 ∨ k = 16 ∨ k = 17 ∨ k = 18 ∨ k = 19 ∨ k = 20 ∨ k = 21 ∨ k = 22 ∨ k = 23 ∨ k = 24 ∨ k = 25 ∨ k = 26 ∨ k = 27 ∨ k = 28 ∨ k = 29 := by omega
  rcases this with rfl | rfl | rfl | rfl | rfl | rfl | rfl | rfl | rfl | rfl | rfl | rfl | rfl | rfl | rfl | rfl | rfl | rfl | rfl | rfl | rfl | rfl | rfl | rfl | rfl | rfl | rfl | rfl | rfl | rfl
  · exact mro_0 P
  · exact mro_1 P
  · exact mro_2 P
  · exact mro_3 P
  · exact mro_4 P
  · exact mro_5 P
  · exact mro_6 P
  · exact mro_7 P
  · exact mro_8 P
  · exact mro_9 P
  · exact mro_10 P
  · exact mro_11 P
  · exact mro_12 P
  · exact mro_13 P
  · exact mro_14 P
  · exact mro_15 P
  · exact mro_16 P
  · exact mro_17 P
  · exact mro_18 P
  · exact mro_19 P
  · exact mro_20 P
  · exact mro_21 P
  · exact mro_22 P
  · exact mro_23 P
  · exact mro_24 P
  · exact mro_25 P
  · exact mro_26 P
  · exact mro_27 P
  · exact mro_28 P
  · exact mro_29 P
theorem first_at (P : Params) {k : Int} (h0 : 0 ≤ k) (h1 : k ≤ 4) : FirstC (Mine.hd.heap_39 P) (clsAt k) := by
  have : k = 0 ∨ k = 1 ∨ k = 2 ∨ k = 3 ∨ k = 4 := by omega
  rcases this with rfl | rfl | rfl | rfl | rfl
  · exact first_0 P
  · exact first_1 P
  · exact first_2 P
  · exact first_3 P
  · exact first_4 P
theorem exc_inst {K : Frag} {C : Addr} (e : excIn K C = true) : instIn K (.ref C) (.type "type") = some true := by
  unfold excIn at e
  split at e
  · simp only [Bool.and_eq_true, Bool.not_eq_true', beq_iff_eq] at e
    exact e.2
  · cases e
theorem isi_at (P : Params) {k : Int} (h0 : 0 ≤ k) (h1 : k < 30) : IsiC (Mine.hd.heap_39 P) (clsAt k) := by
  by_cases h : k ≤ 4
  · have e := first_at P h0 h
    exact ⟨e.ga, e.gt, e.base, e.hasC, e.cls, e.objm, e.typ, exc_inst e.exc⟩
  · have e := op_at P (k := k) (by omega) h1
    exact ⟨e.ga, e.gt, e.base, cls_some e, e.cls, e.objm, e.typ, exc_inst e.exc⟩
/-- who comes of whom, as the law's own table says -/
def kinL (i : Int) : List Int :=
  if i ≤ 1 then [i] else if i = 2 then [0, 1, 2] else if i = 3 then [0, 1, 2, 3] else if i = 4 then [0, 1, 2, 3, 4] else if i = 5 then [0, 1, 2, 5]
  else if 24 ≤ i ∧ i ≤ 26 then [0, 1, 2, 5, 7, i] else if 28 ≤ i then [0, 1, 2, 5, 27, i] else [0, 1, 2, 5, i]
theorem kin_tab : ∀ i : Nat, i < 30 → ∀ j : Nat, j < 30 → ((kinN.getD i []).map (fun j => clsA.getD j 0)).contains (clsA.getD j 0) = (kinL (Int.ofNat i)).any (· == Int.ofNat j) := by decide +kernel
theorem mro_kin (P : Params) {i j : Int} (i0 : 0 ≤ i) (i1 : i < 30) (j0 : 0 ≤ j) (j1 : j < 30) : mroIn (Mine.hd.heap_39 P) (clsAt i) (.ref (clsAt j)) = some ((kinL i).any (· == j)) := by
  obtain ⟨cd, hc, he⟩ := Option.map_eq_some_iff.mp (mro_at P i0 i1)
  have e := kin_tab i.toNat (by omega) j.toNat (by omega)
  rw [show Int.ofNat i.toNat = i from Int.toNat_of_nonneg i0, show Int.ofNat j.toNat = j from Int.toNat_of_nonneg j0] at e
  unfold mroIn
  rw [hc, Option.bind_some, he]
  have h1 : (mroA i.toNat).isEmpty = false := by unfold mroA; cases (kinN.getD i.toNat []).map (fun j => Value.ref (clsA.getD j 0)) <;> rfl
  rw [h1, if_neg (by decide)]
  refine congrArg some ?_
  rw [← e]
  unfold mroA clsAt
  rw [Bool.eq_iff_iff]
  simp only [List.contains_iff_mem, List.mem_append, List.mem_map, List.mem_cons, List.not_mem_nil, or_false, reduceCtorEq, Value.ref.injEq]
theorem kin_self {i : Int} (h0 : 0 ≤ i) (h1 : i < 30) : (kinL i).any (· == i) = true := by
  have : ∀ i : Nat, i < 30 → (kinL (Int.ofNat i)).any (· == Int.ofNat i) = true := by decide +kernel
  have e := this i.toNat (by omega)
  rwa [show Int.ofNat i.toNat = i from Int.toNat_of_nonneg h0] at e
theorem cls_inj {i j : Int} (i0 : 0 ≤ i) (i1 : i < 30) (j0 : 0 ≤ j) (j1 : j < 30) (e : clsAt i = clsAt j) : i = j := by
  have : ∀ i : Nat, i < 30 → ∀ j : Nat, j < 30 → clsA.getD i 0 = clsA.getD j 0 → i = j := by decide +kernel
  have := this i.toNat (by omega) j.toNat (by omega) e
  omega
section
variable {w : World} {A : Around} {E : Value → Shared → Prop} {s : Shared} {prog : Program} {x : Addr} {ox : Obj} {od : Option Obj} {i j : Int} {Q : Value → Shared → Prop}
/-- isinstance of an error of the law's list and a class of it -/
theorem isi_kin (X : (Mine.hd.heap_39 w.params).In s.heap) (I : InstAt s.heap x ox (clsAt i) od) (i0 : 0 ≤ i) (i1 : i < 30) (j0 : 0 ≤ j) (j1 : j < 30)
    (hn : specialIn (Mine.hd.heap_39 w.params) (.builtin "object.__class__") "__get__" = some (some (.builtin "getset_descriptor.__get__"))) (ht : takesIn (Mine.hd.heap_39 w.params) (.builtin "object.__class__") = some true)
    (h : ∀ tk, Q (.bool ((kinL i).any (· == j))) { s with toks := tk }) : wpAny (model prog w) A (call (.builtin "isinstance") [.ref x, .ref (clsAt j)]) Q E s := by
  refine isi_callE X I (isi_at _ i0 i1) (isi_at _ j0 j1) hn ht (mro_kin _ i0 i1 j0 j1) ?_ h
  by_cases e : i = j
  · right; rw [← e]; exact kin_self i0 i1
  · left; exact fun q => e (cls_inj i0 i1 j0 j1 q)
end
end Mine
end

-- E15
section
open PySem PySem.W PySem.Calls PyProof.Rows Builtin Builtin.ObjectAttr
set_option maxRecDepth 100000
set_option maxHeartbeats 4000000
namespace Mine
theorem ei_check {A : Around} {M : Model} {h : Heap} {g : Array GenState} {d : Drawn} {t : Nat} {os : OsState} {x C : Addr} {ox oc : Obj} {cd : ClassData} {rest : List Value} {E : Value → Shared → Prop} {Q : Unit → Shared → Prop}
    (hi : Looks M h (isInstance (.ref x) (.type "Exception")) true) (hx : h.get? x = some ox) (hcls : ox.cls = .ref C) (hC : h.get? C = some oc) (hd : oc.data = .cls cd) (hq : Q () ⟨h, g, d, t, os⟩) :
    wpAny M A (checkBuiltinCall "Exception.__init__" ⟨.ref x :: rest, []⟩) Q E ⟨h, g, d, t, os⟩ := by
  have F := PySem.F.excCall_Exception
  have hshort := F.noStar
  obtain ⟨cc, cdt, cdd, csl⟩ := oc
  dsimp only at hd
  subst hd
  simp only [checkBuiltinCall, F.initKind, F.initSplit, F.initRow]
  refine wpAny_bind (hi.at ?_)
  simp only [Bool.not_true, Bool.false_eq_true, if_false]
  repeat (first | (with_reducible refine wpAny_loadPart_at hx ?_; rw [hcls]) | with_reducible refine wpAny_loadPart_at hC ?_ | wp_step)
  refine wpAny_onRaise ?_
  rw [show ∀ (a b : String) (n : Nat), Bind.check ⟨.positional, "*", "Exception", .self, [⟨"args", .varPos, false⟩]⟩ a b n (List.map (fun x => x.fst) ({ pos := Value.ref x :: rest } : Args).kw) = pure () from
    fun a b n => check_star_args _ _ _ _ _ _]
  exact wpAny_pure hq
section
variable {prog : Program} {w : World} {A : Around} {E : Value → Shared → Prop} {s : Shared} {K : Frag} {x C t0 L : Addr} {v : Value} {h₀ : Heap} {m : Str → Option Value} {news : List (Addr × Obj)}

theorem call_first {Q : Value → Shared → Prop} (F : Fr h₀ L s.heap m) (X₀ : K.In h₀) (N : News h₀ L s.heap news) (hm : FirstC K C)
    (h : ∀ x t t1 h', Fr h₀ L h' m → News h₀ L h' ((t, tupObj [v]) :: (x, excObj C t) :: (t1, tupObj [v]) :: news) → Q (.ref x) { s with heap := h' }) :
    wpAny (model prog w) A (call (.ref C) [v] []) Q E s := by
  have X := X₀.keeps F.keep
  obtain ⟨hh, g, d, t, os⟩ := s
  dsimp only at F N X
  have FX := PySem.F.excCall_Exception
  refine wpAny_call (exc_core (exc_of X hm.exc) (by rw [sizeLine_eq]; exact Nat.le_of_ble_eq_true rfl) (looks_findIn X hm.init) (fun self => Looks.of_pure (ei_bind self)) ?_)
  have F2 := (F.push (tupObj [v])).push (excObj C hh.objs.size)
  have N2 := (N.push F (tupObj [v])).push (F.push _) (excObj C hh.objs.size)
  rw [Heap.size_push] at N2
  have F3 := F2.push (tupObj [v])
  have N3 := N2.push F2 (tupObj [v])
  rw [Heap.size_push, Heap.size_push] at N3
  have X2 := X₀.keeps F2.keep
  have Hx := (N2 (hh.objs.size + 1, excObj C hh.objs.size) (by simp)).1
  obtain ⟨⟨oc, od, cd, sl, hC, -⟩, -⟩ := exc_of (M := model prog w) X2 hm.exc
  have Hx3 := (N3 (hh.objs.size + 1, excObj C hh.objs.size) (by simp)).1
  have I : InstAt _ (hh.objs.size + 1) (excObj C hh.objs.size) C none := ⟨Hx, rfl, rfl, trivial⟩
  refine codeAny_call_builtin FX.init.plain FX.initEntry (ei_check (I.type.andThen (exc_of X2 hm.exc).exc) Hx rfl hC rfl ?_)
  have hlt : ∀ p ∈ (hh.objs.size, tupObj [v]) :: news, p.1 < hh.objs.size + 1 := fun p hp => by
    rcases List.mem_cons.mp hp with rfl | hp
    · exact Nat.lt_succ_self _
    · exact Nat.lt_succ_of_lt (Heap.lt_size (N p hp).1)
  obtain ⟨F4, N4⟩ := news_upd (f := Obj.mapFields (·.setIfInBounds 0 (.ref ((hh.push (tupObj [v])).push (excObj C hh.objs.size)).objs.size))) (pre := [(hh.objs.size + 2, tupObj [v])]) (post := (hh.objs.size, tupObj [v]) :: news) (d := hh.objs.size + 1) (o := excObj C hh.objs.size) (o' := excObj C (hh.objs.size + 2)) F3 N3
    (fun p hp => by rcases List.mem_cons.mp hp with rfl | hp; exact Nat.ne_of_gt (Nat.lt_succ_self _); cases hp) (fun p hp => Nat.ne_of_lt (hlt p hp)) (by rw [Heap.size_push, Heap.size_push]; rfl) rfl
  unfold Builtin.«BaseException.__init__»
  dsimp only
  rw [if_neg (by simp)]
  unfold newTuple Builtin.BaseException.bexcPut
  refine wpAny_bind (wpAny_newObj_type (wpAny_bind (wpAny_bind (wpAny_field (vs := #[.ref hh.objs.size, .none, .none, .none, .bool false, .none]) Hx3 rfl rfl (wpAny_bind (wpAny_setField (vs := #[.ref hh.objs.size, .none, .none, .none, .bool false, .none]) Hx3 rfl (Nat.zero_lt_succ 5) ?_))))) (by show [v].toArray.size ≤ sizeLine; rw [sizeLine_eq]; exact Nat.le_of_ble_eq_true rfl))
  exact wpAny_letGo (wpAny_pure ⟨rfl, h _ _ _ _ F4 N4⟩)
end
end Mine
end

-- N2
section
open PySem PySem.W PySem.Calls PyProof.Rows
set_option maxRecDepth 100000
set_option maxHeartbeats 8000000
namespace Mine
theorem kin_call {w : World} {nms : List (Str × NameKind)} {L fa : Addr} {E : Value → Shared → Prop} {s : Shared} {h₀ : Heap} {m mg mb : Str → Option Value} {news : List (Addr × Obj)} {p : Program} {loose : List Str} {mean : ExcName → Option Value} {Q : Value → Shared → Prop}
    {k : Int} {t : Tok}
    (X : (Mine.hd.heap_39 w.params).In h₀) (T : Top p loose mean mg mb h₀) (B : Below callerA h₀ [] h₀) (F : Fr h₀ L s.heap m) (N : News h₀ L s.heap news)
    (h0 : 0 ≤ k) (h1 : k < 30)
    (hq : ∀ l vs n h' tk', IntsAre vs (kinL k) → Fr h₀ L h' m → News h₀ L h' ((l, W.listOf vs.toArray n) :: news) → Q (.ref l) { s with heap := h', toks := tk' }) :
    wpAny (model PySem.Challenge.rw_gr5037_01.row.prog w) (callerA.deeper (envL nms L fa)) (call (.ref 475) [.int k t]) Q E s := by
  revert X; k_fill; intro X
  w_strict (
    w_top off
    k_steps
    (all_goals try (refine hq _ _ _ _ _ ?_ (by assumption) (by assumption); unfold kinL; (repeat (first | rw [if_pos (by omega)] | rw [if_neg (by omega)])); (repeat constructor))))
end Mine
end

-- E16
section
open PySem PySem.W PySem.Calls PyProof.Rows Builtin Builtin.ObjectAttr
set_option maxRecDepth 100000
set_option maxHeartbeats 4000000
namespace Mine
theorem bs_kind : builtinKind "BaseException.__str__" = some .slot := by decide +kernel
theorem bs_split : splitId "BaseException.__str__" = some ("BaseException", "__str__") := by decide +kernel
section
variable {prog : Program} {w : World} {A : Around} {E : Value → Shared → Prop} {s : Shared} {K : Frag} {x C t0 L : Addr} {v : Value} {h₀ : Heap} {m : Str → Option Value} {news : List (Addr × Obj)} {y : Str} {u : Tok}

theorem bexc_args {M : Model} {items : List Value} {Q : Value × List Value → Shared → Prop} {ox : Obj} {vs : Array Value} (hx : s.heap.get? x = some ox) (hd : ox.data = .fields vs) (h0 : vs[0]? = some (.ref t0)) (ht : s.heap.get? t0 = some (tupObj items)) (hq : Q (.ref t0, items) s) :
    wpAny M A (Builtin.BaseException.bexcArgs (.ref x)) Q E s := by
  unfold Builtin.BaseException.bexcArgs
  refine wpAny_bind (wpAny_field hx hd h0 (wpAny_bind (wpAny_seqItems ht rfl ?_)))
  have : items.toArray.toList = items := by simp
  show wpAny M A (pure (Value.ref t0, items.toArray.toList)) Q E s
  rw [this]; exact wpAny_pure hq

theorem bexc_str {Q : Value → Shared → Prop} {ox : Obj} {vs : Array Value} (hb : Looks (model prog w) s.heap (isInstance (.ref x) (.type "BaseException")) true) (hx : s.heap.get? x = some ox) (hd : ox.data = .fields vs) (h0 : vs[0]? = some (.ref t0)) (ht : s.heap.get? t0 = some (tupObj [.str y u])) (hq : Q (.str y u) s) :
    wpAny (model prog w) A (call (.builtin "BaseException.__str__") [.ref x]) Q E s := by
  refine wpAny_call (codeAny_call_builtin PySem.F.excStr_Exception.str.plain PySem.F.entry_bexc_str (@check_slot (model prog w) _ _ s "BaseException.__str__" "BaseException" "__str__" (.ref x) [] [] _ bs_kind bs_split hb (PySem.F.args_bexc_str _) ?_))
  unfold Builtin.«BaseException.__str__»
  repeat (first | with_reducible refine bexc_args hx hd h0 ht ?_ | wp_step)
  exact hq

theorem str_of_first {Q : Value → Shared → Prop} (hu : A.units < cLine) (F : Fr h₀ L s.heap m) (X₀ : K.In h₀) (N : News h₀ L s.heap news) (hC : FirstC K C) (h1 : (x, excObj C t0) ∈ news) (h2 : (t0, tupObj [.str y u]) ∈ news) (hq : Q (.str y u) s) :
    wpAny (model prog w) A (PySem.Builtin.Str.strOf (.ref x)) Q E s := by
  have X := X₀.keeps F.keep
  have Hx := (N _ h1).1
  have I : InstAt s.heap x (excObj C t0) C none := ⟨Hx, rfl, rfl, trivial⟩
  unfold PySem.Builtin.Str.strOf
  rw [show PySem.Builtin.Str.isExactStr (.ref x) = false from rfl]
  refine wpAny_bind (m := cRoomFor _ _) (wpAny_cRoomFor hu ?_)
  refine wpAny_bind (m := callSpecial? (.ref x) (Str.ofString "__str__")) ?_
  refine wpAny_bind (wpAny_bind (I.type.here ((looks_findIn X hC.str).here (wpAny_holding (wpAny_bind ?_)))))
  rw [PySem.F.excStr_Exception.str.bind]
  refine wpAny_pure (wpAny_bind (bexc_str (I.type.andThen (looks_subIn X hC.base)) Hx rfl rfl (N _ h2).1 (wpAny_pure ?_)))
  exact wpAny_pure hq

theorem str_first {Q : Value → Shared → Prop} (hu : A.in1.in1.units < cLine) (F : Fr h₀ L s.heap m) (X₀ : K.In h₀) (N : News h₀ L s.heap news) (hC : FirstC K C) (h1 : (x, excObj C t0) ∈ news) (h2 : (t0, tupObj [.str y u]) ∈ news) (hq : Q (.str y u) s) :
    wpAny (model prog w) A (call (.type "str") [.ref x]) Q E s := by
  refine callType_codes (T := "str") (Bi := Builtin.«object.__init__») (Q₁ := fun r s₁ => ∃ y u, r = .str y u ∧ Q r s₁) PySem.F.called_str (PySem.F.typeCall_str_1 _) PySem.F.entry_object_init ?_ ?_
  · refine codeAny_of_tree ?_
    show wpAny _ A.in1.in1 (do checkBuiltinCall "str.__new__" ⟨[.type "str", .ref x], []⟩; again (.builtin "str.__new__" ⟨[.type "str", .ref x], []⟩)) _ _ s
    refine wpAny_bind (wpAny_of_eq (PySem.F.newCall_str_1 _) (wpAny_pure ⟨plainId_quiet (by decide +kernel) _, codeAny_builtin PySem.F.entry_str_new ?_⟩))
    rw [Around.under_plainId (by decide +kernel) _]
    rw [str_new_tree]
    refine wpAny_bind (wpAny_pure ?_)
    refine wpAny_bind (wpAny_of_eq isSubtype_str_str ?_)
    exact wpAny_bind (str_of_first hu F X₀ N hC h1 h2 (wpAny_pure ⟨_, _, rfl, hq⟩))
  · rintro obj s₁ ⟨y, u, rfl, hq⟩
    exact ⟨typeIs_str _ _ _, PySem.F.args_object_init_2 _ _, object_init_meets PySem.F.called_str.init.lookup PySem.F.called_str.made (by decide) prog w A.in1 _ s₁ ⟨typeIs_str _ _ _, rfl, hq⟩⟩

theorem inst0_of_news {h : Heap} (N : News h₀ L h news) (h1 : (x, excObj C t0) ∈ news) : W.InstAt h x (excObj C t0) C none := ⟨(N _ h1).1, rfl, rfl, trivial⟩

theorem in_ints {l : Addr} {vs : List Value} {n : Nat} {ns : List Int} {k : Int} {t : Tok} {Q : Value → Shared → Prop} (N : News h₀ L s.heap news) (hl : (l, W.listOf vs.toArray n) ∈ news) (hi : IntsAre vs ns)
    (h : Q (.bool (ns.any (· == k))) s) : wpAny (model prog w) A (compareOp .In (.int k t) (.ref l)) Q E s :=
  in_list_ints (l := l) ⟨_, (N _ hl).1, rfl, n, rfl⟩ hi h

theorem ne_bool_same {b : Bool} {Q : Value → Shared → Prop} (h : Q (.bool false) s) : wpAny (model prog w) A (compareOp .NotEq (.bool b) (.bool b)) Q E s := by
  refine ne_bool ?_
  simpa using h
end
end Mine
end

-- E17
section
open PySem PySem.W PySem.Calls PyProof.Rows
open Sem (wp)
set_option maxRecDepth 100000
set_option maxHeartbeats 4000000
namespace Mine
/-- every object that was there is there yet, with the dict it had -/
def DK (h h' : Heap) : Prop := ∀ b o, h.get? b = some o → ∃ o', h'.get? b = some o' ∧ o'.dict = o.dict
theorem DK.refl (h : Heap) : DK h h := fun _ o e => ⟨o, e, rfl⟩
theorem DK.trans {h₁ h₂ h₃ : Heap} (x : DK h₁ h₂) (y : DK h₂ h₃) : DK h₁ h₃ := fun b o e => by
  obtain ⟨o', e', q⟩ := x b o e
  obtain ⟨o'', e'', q'⟩ := y b o' e'
  exact ⟨o'', e'', q'.trans q⟩
theorem DK.push (h : Heap) (o : Obj) : DK h (h.push o) := fun _ o' e => ⟨o', Heap.get?_push_of_some _ e, rfl⟩
theorem DK.update (h : Heap) (a : Addr) {f : Obj → Obj} (hf : ∀ o, o.isFreed = false → (f o).isFreed = false ∧ (f o).dict = o.dict) : DK h (h.update a f) := fun b o e => by
  by_cases q : a = b
  · subst q
    have hl := (Heap.get?_some_iff.mp e).2
    exact ⟨f o, Heap.get?_update_self f e (hf o hl).1, (hf o hl).2⟩
  · exact ⟨o, (Heap.get?_update_other h f q).trans e, rfl⟩

/-- a tree that calls nothing and keeps the dicts -/
def Tame {α : Type} : Sem α → Prop
  | .pure _ => True
  | .raise _ => True
  | .unsupported _ => True
  | .finish _ => True
  | .rule _ k => Tame (k ())
  | .at _ k => Tame (k ())
  | .load _ _ k => ∀ o, Tame (k o)
  | .update _ _ f k => (∀ o, o.isFreed = false → (f o).isFreed = false ∧ (f o).dict = o.dict) ∧ Tame (k ())
  | .alloc _ k => ∀ a, Tame (k a)
  | .loadIfAlive _ k => ∀ o, Tame (k o)
  | .point _ k => Tame (k ())
  | .register _ _ => False
  | .fresh k => ∀ a, Tame (k a)
  | .ask k => ∀ a, Tame (k a)
  | .choose _ _ k => ∀ a, Tame (k a)
  | .os _ _ k => ∀ a, Tame (k a)
  | .call .. => False
  | .handled _ k => ∀ a, Tame (k a)
  | .newGen _ k => ∀ a, Tame (k a)
  | .genState _ k => ∀ a, Tame (k a)
  | .resume .. => False
  | .yield .. => False
  | .stack k => ∀ a, Tame (k a)
  | .fork .. => False
  | .thread k => ∀ a, Tame (k a)
  | .await .. => False

theorem wp_tame {α : Type} {M : Model} {Γ : Ctx} (t : Sem α) : ∀ {Q : α → Pos → Shared → Prop} {E : Value → Pos → Shared → Prop} {p : Pos} {s : Shared}, Tame t → wp M Γ t Q E p s → wp M Γ t (fun a p' s' => Q a p' s' ∧ DK s.heap s'.heap) E p s := by
  induction t with
  | pure a => intro Q E p s _ h; exact ⟨h, DK.refl _⟩
  | raise e => intro Q E p s _ h; exact h
  | unsupported _ => intro Q E p s _ h; exact h
  | finish _ => intro Q E p s _ h; exact h
  | rule _ k ih => intro Q E p s T h; exact ih () T h
  | «at» _ k ih => intro Q E p s T h; exact ih () T h
  | load a _ k ih => intro Q E p s T h; obtain ⟨o, ho, h⟩ := h; exact ⟨o, ho, ih o (T o) h⟩
  | update a _ f k ih =>
    intro Q E p s T h
    obtain ⟨h1, h2⟩ := h
    refine ⟨h1, ?_⟩
    have := ih () T.2 h2
    exact Sem.wp_mono _ _ _ (fun a p' s' q => ⟨q.1, (DK.update _ _ T.1).trans q.2⟩) (fun _ _ _ q => q) _ _ this
  | alloc o k ih =>
    intro Q E p s T h
    have := ih _ (T _) h
    exact Sem.wp_mono _ _ _ (fun a p' s' q => ⟨q.1, (DK.push _ _).trans q.2⟩) (fun _ _ _ q => q) _ _ this
  | loadIfAlive a k ih => intro Q E p s T h; exact ih _ (T _) h
  | point _ k ih => intro Q E p s T h; exact ih () T h
  | register _ _ _ => intro Q E p s T h; exact T.elim
  | fresh k ih => intro Q E p s T h; exact ih _ (T _) h
  | ask k ih => intro Q E p s T h; exact ih _ (T _) h
  | choose _ _ k ih => intro Q E p s T h; exact ⟨h.1, ih _ (T _) h.2⟩
  | os _ _ k ih => intro Q E p s T h; exact ih _ (T _) h
  | call _ _ _ _ _ _ => intro Q E p s T h; exact T.elim
  | handled _ k ih => intro Q E p s T h; exact ih _ (T _) h
  | newGen _ k ih => intro Q E p s T h; exact ih _ (T _) h
  | genState _ k ih => intro Q E p s T h; obtain ⟨st, hs, h⟩ := h; exact ⟨st, hs, ih _ (T _) h⟩
  | resume _ _ _ _ _ => intro Q E p s T h; exact T.elim
  | yield _ _ _ _ _ => intro Q E p s T h; exact T.elim
  | stack k ih => intro Q E p s T h; exact ih _ (T _) h
  | fork _ _ _ => intro Q E p s T h; exact T.elim
  | thread k ih => intro Q E p s T h; exact ih _ (T _) h
  | await _ _ _ _ _ _ => intro Q E p s T h; exact T.elim

theorem any_tame {α : Type} {M : Model} {A : Around} {t : Sem α} {Q : α → Shared → Prop} {E : Value → Shared → Prop} {s : Shared} (T : Tame t) (h : wpAny M A t Q E s) : wpAny M A t (fun a s' => Q a s' ∧ DK s.heap s'.heap) E s :=
  fun Γ p hΓ => wp_tame t T (h Γ p hΓ)

theorem tame_bind {α β : Type} (m : Sem α) {k : α → Sem β} : Tame m → (∀ a, Tame (k a)) → Tame (m >>= k) := by
  intro hm hk
  show Tame (m.bind k)
  induction m with
  | pure a => exact hk a
  | raise e => trivial
  | unsupported _ => trivial
  | finish _ => trivial
  | rule _ k ih => exact ih () hm
  | «at» _ k ih => exact ih () hm
  | load a _ k ih => exact fun o => ih o (hm o)
  | update a _ f k ih => exact ⟨hm.1, ih () hm.2⟩
  | alloc o k ih => exact fun o => ih o (hm o)
  | loadIfAlive a k ih => exact fun o => ih o (hm o)
  | point _ k ih => exact ih () hm
  | register _ _ _ => exact hm.elim
  | fresh k ih => exact fun o => ih o (hm o)
  | ask k ih => exact fun o => ih o (hm o)
  | choose _ _ k ih => exact fun o => ih o (hm o)
  | os _ _ k ih => exact fun o => ih o (hm o)
  | call _ _ _ _ _ _ => exact hm.elim
  | handled _ k ih => exact fun o => ih o (hm o)
  | newGen _ k ih => exact fun o => ih o (hm o)
  | genState _ k ih => exact fun o => ih o (hm o)
  | resume _ _ _ _ _ => exact hm.elim
  | yield _ _ _ _ _ => exact hm.elim
  | stack k ih => exact fun o => ih o (hm o)
  | fork _ _ _ => exact hm.elim
  | thread k ih => exact fun o => ih o (hm o)
  | await _ _ _ _ _ _ => exact hm.elim

theorem tame_pure {α : Type} (a : α) : Tame (pure a : Sem α) := trivial
theorem tame_unsupported {α : Type} (x : String) : Tame (unsupported x : Sem α) := trivial
theorem tame_ite {α : Type} {c : Prop} [Decidable c] {x y : Sem α} (hx : Tame x) (hy : Tame y) : Tame (if c then x else y) := by split <;> assumption
theorem tame_fieldsOf (v : Value) : Tame (fieldsOf v) := by
  unfold fieldsOf
  cases v with
  | ref a =>
    refine tame_bind _ (fun o => trivial) fun o => ?_
    cases o.data <;> trivial
  | _ => trivial
theorem tame_field (v : Value) (i : Nat) : Tame (field v i) := by
  unfold field
  refine tame_bind _ (tame_fieldsOf v) fun vs => ?_
  cases vs[i]? <;> trivial
theorem freed_fields (o : Obj) (f : Array Value → Array Value) (h : o.isFreed = false) : (Obj.mapFields f o).isFreed = false ∧ (Obj.mapFields f o).dict = o.dict := by
  obtain ⟨c, d, dt, sl⟩ := o
  cases dt <;> exact ⟨h, rfl⟩
theorem tame_setField (v : Value) (i : Nat) (x : Value) : Tame (setField v i x) := by
  unfold setField
  cases v with
  | ref a =>
    unfold updateField
    dsimp only
    refine tame_bind _ (fun o => trivial) fun o => ?_
    cases o.data <;> first | trivial | exact tame_ite ⟨fun o h => freed_fields o _ h, trivial⟩ trivial
  | _ => trivial
theorem tame_setFlight (e : Value) (f : Option Addr) : Tame (setFlight e f) := by
  unfold setFlight
  refine tame_bind _ (tame_field e 1) fun tb => ?_
  exact tame_ite (tame_setField _ _ _) (tame_pure _)
theorem freed_slots (o : Obj) (sl : Array (Option Value)) (h : o.isFreed = false) : ({ o with slots := sl } : Obj).isFreed = false ∧ ({ o with slots := sl } : Obj).dict = o.dict := ⟨(kts_isFreed o sl).trans h, rfl⟩
theorem tame_behind (env : Env) (outer : List Env) : Tame (behindIsImport env outer) := by
  unfold behindIsImport
  first
    | (refine tame_ite (tame_pure _) ?_; refine tame_ite (tame_pure _) ?_; exact tame_bind _ (tame_field _ _) fun _ => tame_pure _)
theorem tame_under : Tame underTheClaimsCaller := by
  unfold underTheClaimsCaller
  exact tame_bind _ (fun _ => trivial) fun _ => tame_pure _
theorem tame_keptBack (env : Env) (b : Bool) : ∀ l, Tame (keptBack env b l)
  | [] => tame_ite (tame_pure _) (tame_bind _ tame_under fun _ => tame_pure _)
  | _ :: _ => tame_pure _
theorem tame_ready : ∀ l, Tame (readyFrames l)
  | [] => tame_pure _
  | env :: outer => by
    unfold readyFrames
    cases env.frame with
    | none => trivial
    | some f =>
      refine tame_bind _ (fun o => trivial) fun o => ?_
      refine tame_ite (tame_pure _) ?_
      exact tame_bind _ (tame_behind _ _) fun _ => tame_bind _ (tame_keptBack _ _ _) fun _ => tame_bind _ ⟨fun o h => freed_slots o _ h, trivial⟩ fun _ => tame_ready outer
theorem tame_frameOf (env : Env) : Tame (PySem.frameOf env) := by
  unfold PySem.frameOf frameEnvs
  refine tame_bind _ (tame_bind _ (fun _ => trivial) fun _ => tame_pure _) fun l => ?_
  refine tame_bind _ ?_ fun o => by cases o <;> trivial
  cases (l.dropWhile (·.frame != env.frame)) with
  | nil => trivial
  | cons e r => exact tame_bind _ (tame_ready _) fun _ => tame_pure _
theorem tame_place (f : Addr) (b : Bool) : Tame (entryPlaceOf f b) := by
  unfold entryPlaceOf
  refine tame_bind _ (fun _ => trivial) fun l => ?_
  split <;> trivial
theorem tame_asIs (t : String) (dt : Data) : Tame (newObjAsIs (.type t) dt none) := by
  unfold newObjAsIs
  exact tame_bind _ (fun _ => trivial) fun _ => trivial
theorem tame_newEntry (a b c d e : Value) (l : List Value) : Tame (EntryCells.newEntry a b c d e l) := by
  unfold EntryCells.newEntry newFields newObj
  dsimp only
  first
    | exact tame_ite (tame_bind _ trivial fun _ => tame_asIs _ _) (tame_asIs _ _)
    | exact tame_ite trivial (tame_asIs _ _)
    | exact tame_ite (tame_bind _ trivial fun _ => tame_asIs _ _) (tame_bind _ trivial fun _ => tame_asIs _ _)
theorem tame_note (e : Value) (env : Env) : Tame (noteFrame e env) := by
  unfold noteFrame
  cases env.frame with
  | none => trivial
  | some f =>
    dsimp only
    refine tame_bind _ (tame_field _ _) fun head => ?_
    have fin : Tame (do setField e 1 (← EntryCells.newEntry head (← frameOf env) .none (rawInt f) .none (← entryPlaceOf f (head != .none)))) :=
      tame_bind _ (tame_frameOf _) fun _ => tame_bind _ (tame_place _ _) fun _ => tame_bind _ (tame_newEntry _ _ _ _ _ _) fun _ => tame_setField _ _ _
    refine tame_ite (tame_bind _ (tame_field _ _) fun _ => tame_ite (tame_pure _) (tame_bind _ (tame_setField _ _ _) fun _ => fin)) fin
theorem tame_leaving (env : Env) (e : Value) : Tame (leaving env e) := by
  unfold leaving
  exact tame_bind _ (tame_note _ _) fun _ => tame_setFlight _ _
end Mine
end

-- E18
section
open PySem PySem.W PySem.Calls PyProof.Rows
set_option maxRecDepth 100000
set_option maxHeartbeats 4000000
namespace Mine
/-- an own error on its way, with its dict; `news` lives on beside it -/
def RaisedD (base G : Heap) (l : List Env) (e : Addr) (cls : Value) (d : Addr) (news : List (Addr × Obj)) (h : Heap) : Prop :=
  (∃ B a0, base.StaysIn B ∧ (∀ b o, G.get? b = some o → b ∉ l.filterMap (·.frame) → B.get? b = some o) ∧ (∀ q ∈ news, q.1 ≠ e → B.get? q.1 = some q.2 ∧ G.get? q.1 = none ∧ base.get? q.1 = none) ∧ Heap.FlyingW B l e cls a0 h) ∧
    ∃ oe, h.get? e = some oe ∧ oe.dict = some d
section
variable {M : Model} {A : Around} {E : Value → Shared → Prop} {s' : Shared} {base g g₂ h : Heap} {outer : List Env} {L a e t d C : Addr} {m : Str → Option Value} {name : Str} {scope : Scope} {cd : Value} {Q : Unit → Shared → Prop} {news news₂ : List (Addr × Obj)}

theorem leave_firstD (K : Below A base outer g) (F : Fr g L s'.heap m) (N : News g L s'.heap news) (he : (e, excObjD C t d) ∈ news)
    (hQ : ∀ h', RaisedD base g outer e (.ref C) d news h' → g.UpToSlots h' → Q () { s' with heap := h' }) (hk : scope.kind = .function := by rfl) :
    wpAny M (A.deeper (envOf name scope L a cd)) (leaving (envOf name scope L a cd) (.ref e)) Q E s' := by
  have K' := K.push (name := name) (a := a) (cd := cd) F hk
  have Ne := N _ he
  have hin : ∀ env ∈ (envOf name scope L a cd :: outer), ∀ b, env.frame = some b → b ∈ e :: (envOf name scope L a cd :: outer).filterMap (·.frame) := fun env he b hb => List.mem_cons_of_mem _ (List.mem_filterMap.mpr ⟨env, he, hb⟩)
  have st : base.StaysIn (hideAll s'.heap (e :: (envOf name scope L a cd :: outer).filterMap (·.frame))) := fun b o q => hideAll_get _ (K'.stays b o q) fun hm => by
    rcases List.mem_cons.mp hm with rfl | hm
    · have := K.stays _ _ q; rw [Ne.2.2] at this; cases this
    · rw [(K'.frames.mem hm).1] at q; cases q
  have sg : ∀ b o, g.get? b = some o → b ∉ outer.filterMap (·.frame) → (hideAll s'.heap (e :: (envOf name scope L a cd :: outer).filterMap (·.frame))).get? b = some o := fun b o q nm => hideAll_get _ (F.keep b o q) fun hm => by
    rcases List.mem_cons.mp hm with rfl | hm
    · rw [Ne.2.2] at q; cases q
    · rcases kts_mem hm with z | z
      · rw [z, kts_self F] at q; cases q
      · exact nm z
  have hl : ∀ q ∈ news, q.1 ≠ e → (hideAll s'.heap (e :: (envOf name scope L a cd :: outer).filterMap (·.frame))).get? q.1 = some q.2 ∧ g.get? q.1 = none ∧ base.get? q.1 = none := fun q hq hne => by
    refine ⟨hideAll_get _ (N q hq).1 fun hm => ?_, (N q hq).2.2, fresh_of_stays K.stays (N q hq).2.2⟩
    rcases List.mem_cons.mp hm with z | hm
    · exact hne z
    · obtain ⟨env, he, hf⟩ := List.mem_filterMap.mp hm
      rcases List.mem_cons.mp he with rfl | he
      · exact (N q hq).2.1 (Option.some.inj hf).symm
      · obtain ⟨o, ho, _⟩ := (K.frames.mem (List.mem_filterMap.mpr ⟨env, he, hf⟩)).2
        rw [(N q hq).2.2] at ho; cases ho
  have hen : (hideAll s'.heap (e :: (envOf name scope L a cd :: outer).filterMap (·.frame))).get? e = none := hideAll_none _ (.head _)
  refine wpAny_mono (any_tame (tame_leaving _ _) (wpAny_leaving_firstW (a0 := .ref t) (vs := #[.ref t, .none, .none, .none, .bool false, .none]) (Q := fun _ s'' => ∃ h', s'' = { s' with heap := h' } ∧ Heap.LeftW (hideAll s'.heap (e :: (envOf name scope L a cd :: outer).filterMap (·.frame))) (envOf name scope L a cd :: outer) e (.ref C) (.ref t) s'.heap h')
    K'.stack (funFrames_hide K'.frames hin) rfl Ne.1 (fun b o q => of_hideAll _ q) hen rfl rfl rfl fun h' hL => ⟨h', rfl, hL⟩)) (fun _ s'' z => ?_) fun _ _ q => q
  obtain ⟨⟨h', rfl, hL⟩, dk⟩ := z
  obtain ⟨k1, ⟨_, _, k2⟩, k3, k4⟩ := hL
  obtain ⟨oe, hoe, hd⟩ := dk _ _ Ne.1
  exact hQ h' ⟨⟨_, _, st, sg, hl, k1, hen, k2, k3⟩, oe, hoe, hd⟩ ((Heap.UpToSlots.of_keeps F.keep).trans k4)

theorem memX {env : Env} {b : Addr} (hf : env.frame = some L) (hm : b ∈ (env :: outer).filterMap (·.frame)) : b = L ∨ b ∈ outer.filterMap (·.frame) := by
  obtain ⟨env', he, hf'⟩ := List.mem_filterMap.mp hm
  rcases List.mem_cons.mp he with rfl | he
  · rw [hf] at hf'; exact .inl (Option.some.inj hf').symm
  · exact .inr (List.mem_filterMap.mpr ⟨env', he, hf'⟩)

theorem leave_onD {env : Env} {cls : Value} (hf : env.frame = some L) (K : Below A base outer g) (F : Fr g L g₂ m) (R : RaisedD base g₂ (env :: outer) e cls d news s'.heap) (hsm : g₂.UpToSlots s'.heap)
    (hQ : ∀ h', RaisedD base g outer e cls d news h' → g.UpToSlots h' → Q () { s' with heap := h' }) :
    wpAny M (A.deeper env) (leaving env (.ref e)) Q E s' := by
  obtain ⟨⟨B, a0, hB, hBG, hl, hfl⟩, oe, hoe, hd⟩ := R
  refine wpAny_mono (any_tame (tame_leaving _ _) (wpAny_leaves_onW (Q := fun _ s'' => ∃ h', s'' = { s' with heap := h' } ∧ Heap.FlyingW B outer e cls a0 h' ∧ s'.heap.UpToSlots h') (Around.frames_deeper K.stack) hf hfl fun h' x1 x2 => ⟨h', rfl, x1, x2⟩)) (fun _ s'' z => ?_) fun _ _ q => q
  obtain ⟨⟨h', rfl, x1, x2⟩, dk⟩ := z
  obtain ⟨oe', hoe', hd'⟩ := dk _ _ hoe
  exact hQ h' ⟨⟨B, a0, hB, fun b o q nm => hBG b o (F.keep b o q) (fun hm => by
      rcases memX hf hm with z | z
      · rw [z, kts_self F] at q
        cases q
      · exact nm z), fun q hq hne => ⟨(hl q hq hne).1, kts_none F.keep (hl q hq hne).2.1, (hl q hq hne).2.2⟩, x1⟩, oe', hoe', hd'.trans hd⟩ ((Heap.UpToSlots.of_keeps F.keep).trans (hsm.trans x2))
end
end Mine
end

-- E19
section
open PySem PySem.W PySem.Calls PyProof.Rows
set_option maxRecDepth 100000
set_option maxHeartbeats 4000000
namespace Mine
/-- the value of a raise: an own error, not raised yet -/
def RaisableO (K : Frag) (E : Value → Shared → Prop) (v : Value) (s₁ : Shared) : Prop :=
  ∃ a ob vs C, v = .ref a ∧ K.In s₁.heap ∧ subIn K (.ref C) (.type "BaseException") = some true ∧ typeIn K (.ref C) = some (.type "type") ∧ s₁.heap.get? a = some ob ∧ ob.cls = .ref C ∧ ob.data = .fields vs ∧ vs[1]? = some .none ∧ E (.ref a) s₁
section
variable {M : Model} {A : Around} {E : Value → Shared → Prop} {s : Shared} {env : Env} {K : Frag}
theorem Raise_own {e : Expr} {pos : Pos} {Q : Flow → Shared → Prop} (hh : A.handled = none)
    (h : wpAny M A (eval e env) (RaisableO K E) E s) : wpAny M A (exec (.Raise (some e) none pos) env) Q E s := by
  show wpAny M A (do standAt pos; raiseStmt env (some (do let v ← eval e env; standAt pos; pure v)) none) Q E s
  refine wpAny_bind (wpAny_standAt ?_)
  unfold raiseStmt
  dsimp only
  refine wpAny_bind (wpAny_bind (wpAny_mono h (fun v s₁ h₁ => wpAny_bind (wpAny_standAt (wpAny_pure ?_))) fun _ _ x => x))
  obtain ⟨a, ob, vs, C, rfl, X, hb, ht, ha, hcls, hd, h1, hE⟩ := h₁
  have LT : Looks M s₁.heap (typeOf (.ref a)) (.ref C) := hcls ▸ (Looks.ld ha).andThen .now
  have LB := looks_subIn (M := M) X hb
  have LM := looks_typeIn (M := M) X ht
  have hnt : ∀ {Q' : Bool → Shared → Prop}, Q' false s₁ → wpAny M A (isType (.ref a)) Q' E s₁ := by
    intro Q' hq
    simp only [isType, loadHead]
    refine wpAny_bind (wpAny_loadPart ha ?_)
    rw [hd]; exact wpAny_pure hq
  refine wpAny_bind (wpAny_pure ?_)
  dsimp only
  refine wpAny_bind (wpAny_holding ?_)
  unfold excFromValue isExcClass
  refine wpAny_bind (wpAny_bind (hnt ?_))
  simp only [Bool.false_eq_true, if_false]
  refine wpAny_pure ?_
  simp only [Bool.false_eq_true, if_false]
  refine wpAny_bind ((LT.andThen LB).here ?_)
  simp only [if_true]
  refine wpAny_pure ?_
  refine wpAny_bind (hnt ?_)
  simp only [Bool.false_eq_true, if_false]
  unfold raisedInstance
  refine wpAny_bind (wpAny_bind (LT.here (wpAny_bind (LM.here ?_))))
  rw [if_pos (by decide)]
  refine wpAny_pure ?_
  unfold setFlight raiseNew
  refine wpAny_bind (wpAny_bind (wpAny_field ha hd h1 ?_))
  rw [if_neg (by decide)]
  refine wpAny_pure (wpAny_bind (wpAny_handled ?_))
  rw [hh]
  first
    | exact wpAny_throw hE
    | exact wpAny_bind (wpAny_pure (wpAny_throw hE))
end
section
variable {prog : Program} {w : World} {A : Around} {E : Value → Shared → Prop} {s s₁ : Shared} {env : Env} {h₀ : Heap} {L a C t d : Addr} {m : Str → Option Value} {news : List (Addr × Obj)} {K : Frag} {nm : Str}
theorem Raise_ownP (Kf : Params → Frag) {e : Expr} {pos : Pos} {Q : Flow → Shared → Prop} (hh : A.handled = none)
    (h : wpAny (model prog w) A (eval e env) (RaisableO (Kf w.params) E) E s) : wpAny (model prog w) A (exec (.Raise (some e) none pos) env) Q E s := Raise_own hh h
theorem raisable_own (F : Fr h₀ L s₁.heap m) (X₀ : K.In h₀) (N : News h₀ L s₁.heap news) (hm : (a, excObjD C t d) ∈ news) (ho : OpC K C nm) (h : E (.ref a) s₁) : RaisableO K E (.ref a) s₁ :=
  ⟨a, _, _, C, rfl, X₀.keeps F.keep, ho.base, ho.typ, (N _ hm).1, rfl, rfl, rfl, h⟩
end
end Mine
end

-- E20
section
open PySem PySem.W PySem.Calls PyProof.Rows
set_option maxRecDepth 100000
set_option maxHeartbeats 4000000
namespace Mine
section
variable {M : Model} {A : Around} {E : Value → Shared → Prop} {K : Frag} {C D e : Addr}
theorem matches_own {hh : Heap} {g : Array GenState} {d : Drawn} {t : Nat} {os : OsState} {oe : Obj} {Q : Bool → Shared → Prop} (X : K.In hh) (he : hh.get? e = some oe) (hcls : oe.cls = .ref C)
    (ht : typeIn K (.ref D) = some (.type "type")) (hc : (clsIn K D).isSome = true) (hb : subIn K (.ref D) (.type "BaseException") = some true) (hs : subIn K (.ref C) (.ref D) = some true)
    (hq : Q true ⟨hh, g, d, t, os⟩) : wpAny M A (excMatches (.ref e) (.ref D)) Q E ⟨hh, g, d, t, os⟩ := by
  have f := tc_notTuple
  have L1 : Looks M hh (typeOf (.ref e)) (.ref C) := hcls ▸ (Looks.ld he).andThen .now
  have L2 := looks_typeIn (M := M) X ht
  have L3 := isT (M := M) X hc
  have L4 := looks_subIn (M := M) X hb
  have L5 := looks_subIn (M := M) X hs
  have LI : Looks M hh (isInstance (.ref D) (.type "tuple")) false := L2.andThen (Looks.of_pure tc_notTuple)
  unfold excMatches isExcClass
  refine wpAny_bind (LI.at ?_)
  simp only [Bool.false_eq_true, if_false]
  refine wpAny_bind (wpAny_pure ?_)
  rw [List.forIn_cons]
  refine wpAny_bind (wpAny_bind (wpAny_bind (wpAny_bind (L3.at ?_))))
  simp only [if_true]
  refine L4.at ?_
  simp only [Bool.not_true, Bool.false_eq_true, if_false]
  refine wpAny_pure (wpAny_pure ?_)
  refine wpAny_bind (L1.at ?_)
  rw [List.forIn_cons]
  refine wpAny_bind (wpAny_bind (wpAny_bind (L5.at ?_)))
  simp only [if_true]
  repeat (first | exact hq | refine wpAny_pure ?_)
end
section
variable {prog : Program} {w : World} {A₀ : Around} {E : Value → Shared → Prop} {s' : Shared} {base g G : Heap} {outer : List Env} {L a e d C D : Addr} {m : Str → Option Value} {name : Str} {scope : Scope} {cd : Value}
  {n x : Str} {b₀ : Stmt} {suite : List Stmt} {pos np : Pos} {rest : List ExceptHandler} {Q : Flow → Shared → Prop} {news : List (Addr × Obj)} {KF : Frag}
  {p : Program} {loose : List Str} {mean : ExcName → Option Value} {mg mb : Str → Option Value}

theorem caught_D {t : Addr} {gg : Obj → List (Addr × Obj)} (U : UpdF e (excObjD C t d) news gg) (R : RaisedD base G (envOf name scope L a cd :: outer) e (.ref C) d news s'.heap) (F : Fr g L G m) (K : Below A₀ base outer g) (hsm : G.UpToSlots s'.heap) (XB : KF.In base) (TB : Top p loose mean mg mb base)
    (ex : nsIn KF mainGlobals x = some (some (.ref D))) (ht : typeIn KF (.ref D) = some (.type "type")) (hc : (clsIn KF D).isSome = true) (hb : subIn KF (.ref D) (.type "BaseException") = some true) (hs : subIn KF (.ref C) (.ref D) = some true)
    (k : ∀ h' g' oe tk, KtsTurn (outer.filterMap (·.frame)) g g' → Fr g' L h' (fun y => if y = n then some (.ref e) else m y) → News g' L h' (gg oe) → oe.cls = .ref C → oe.dict = some d → (∃ ws, oe.data = .fields ws) → Below A₀ base outer g' → KF.In g' → Top p loose mean mg mb g' →
      wpAny (model prog w) ((A₀.deeper (envOf name scope L a cd)).mark (some (.ref e))) (execs (b₀ :: suite) (envOf name scope L a cd))
        (fun f s₄ => wpAny (model prog w) (A₀.deeper (envOf name scope L a cd)) (do bindName (envOf name scope L a cd) n .none; unbindBehindTheSuite (envOf name scope L a cd) n pos) (fun _ s₅ => Q f s₅) E s₄)
        (AsSuiteRaised (model prog w) ((A₀.deeper (envOf name scope L a cd)).mark (some (.ref e))) (envOf name scope L a cd) n pos (notedBy (model prog w) ((A₀.deeper (envOf name scope L a cd)).mark (some (.ref e))) (envOf name scope L a cd) (cameBackBy (model prog w) (A₀.deeper (envOf name scope L a cd)) (envOf name scope L a cd) E)))
        { s' with heap := h', toks := tk })
    (hk : scope.kind = .function := by rfl) (hlo : (envOf name scope L a cd).kindOf n = some .local := by rfl) (hx : (envOf name scope L a cd).kindOf x = some .globalImplicit := by rfl) (hd : (x == ("__debug__" : Str)) = false := by decide) :
    wpAny (model prog w) (A₀.deeper (envOf name scope L a cd)) (noteFrame (.ref e) (envOf name scope L a cd))
      (fun _ s₂ => wpAny (model prog w) (A₀.deeper (envOf name scope L a cd)) (setFlight (.ref e) none) (fun _ s₃ =>
        wpAny (model prog w) (A₀.deeper (envOf name scope L a cd)) (handleBy (.ref e) (envOf name scope L a cd) (.ExceptHandler (some (.Name x np)) (some n) (b₀ :: suite) pos :: rest)) Q E s₃) E s₂) E s' := by
  obtain ⟨⟨B, a0, hB, hBG, hl, hfl⟩, oe0, hoe0, hd0⟩ := R
  have hL : B.get? L = none := by
    obtain ⟨_, ⟨L', _, hf, hn', _⟩, _⟩ := hfl.2.2.1
    obtain rfl : L = L' := Option.some.inj hf
    exact hn'
  refine wpAny_mono (any_tame (tame_note _ _) (wpAny_looks_onW (Q := fun _ s'' => ∃ h', s'' = { s' with heap := h' } ∧ Heap.HeldW B (envOf name scope L a cd :: outer) e (.ref C) a0 L h' ∧ s'.heap.UpToSlots h') (Around.frames_deeper K.stack) rfl hfl fun h' x1 x2 => ⟨h', rfl, x1, x2⟩)) (fun _ s'' z => ?_) fun _ _ q => q
  obtain ⟨⟨h₄, rfl, hheld₄, hsm₄⟩, dk₄⟩ := z
  refine wpAny_mono (any_tame (tame_setFlight _ _) (wpAny_landsW (Q := fun _ s'' => ∃ h', s'' = { s' with heap := h' } ∧ Heap.FlyingW B (envOf name scope L a cd :: outer) e (.ref C) a0 h' ∧ h₄.UpToSlots h') hheld₄ fun h' x1 x2 => ⟨h', rfl, x1, x2⟩)) (fun _ s'' z => ?_) fun _ _ q => q
  obtain ⟨⟨h₅, rfl, hheld, hsm₅'⟩, dk₅⟩ := z
  have hsm₅ := hsm₄.trans hsm₅'
  have dk := dk₄.trans dk₅
  obtain ⟨g₅, T₅, F₅, K₅⟩ := kts_ground K F hBG hheld.1 (hsm.trans hsm₅)
  have X₅ : KF.In g₅ := XB.keeps K₅.stays
  have P₅ : TopRead p loose mg mb g₅ := topRead_of (TB.keeps K₅.stays)
  obtain ⟨ob, hob, hobc⟩ := hheld.there
  refine wpAny_handleBy_cons (codeAny_handlers_test (name_K F₅ X₅ P₅ ex ?_ hk hx hd)) (by intro q; cases q)
  refine matches_own (X₅.keeps F₅.keep) hob hobc ht hc hb hs (codeAny_handlers_suite_as ?_)
  refine wpAny_mono (any_tame (tame_setFlight _ _) (lands_againW (Q := fun _ s'' => ∃ h', s'' = { s' with heap := h' } ∧ Heap.FlyingW B (envOf name scope L a cd :: outer) e (.ref C) a0 h' ∧ h₅.UpToSlots h') hheld fun h' x1 x2 => ⟨h', rfl, x1, x2⟩)) (fun _ s'' z => ?_) fun _ _ q => q
  obtain ⟨⟨h₆, rfl, hfl₆, hsm₆⟩, dk₆⟩ := z
  obtain ⟨g₆, T₆, F₆, K₆⟩ := kts_ground K F hBG hfl₆.1 ((hsm.trans hsm₅).trans hsm₆)
  obtain ⟨oe, ws, hoe, hoec, hoed, -⟩ := hfl₆.first
  obtain ⟨oe', hoe', hd'⟩ := (dk.trans dk₆) _ _ hoe0
  obtain rfl : oe = oe' := by
    have q := hoe.symm.trans hoe'
    exact Option.some.inj q
  have ne₆ : g₆.get? e = none := T₆.none_ _ (kts_fresh F hBG hfl₆.2.1 fun o ho m => by
    obtain ⟨_, o', ho', hd⟩ := K.frames.mem m
    rw [ho] at ho'
    cases ho'
    obtain ⟨sl, hs⟩ := ((hsm.trans hsm₅).trans hsm₆) _ _ (F.keep _ _ ho) hd
    rw [hoe] at hs
    cases hs
    exact hd _ hoed)
  have Nl : ∀ q ∈ news, q.1 ≠ e → h₆.get? q.1 = some q.2 ∧ q.1 ≠ L ∧ g₆.get? q.1 = none := fun q hq hne => ⟨hfl₆.1 _ _ (hl q hq hne).1, (fun z => by have := (hl q hq hne).1; rw [z, hL] at this; cases this), T₆.none_ _ (kts_none F.keep (hl q hq hne).2.1)⟩
  have N0 := News.more F₆ News.nil hoe (fun es n q => by rw [hoed] at q; cases q) ne₆
  have N₆ : News g₆ L h₆ (gg oe) := fun q hq => by
    obtain ⟨pre, post, rfl, hg, n1, n2⟩ := U.split
    rw [hg oe] at hq
    rcases List.mem_append.mp hq with hq | hq
    · exact Nl q (List.mem_append_left _ hq) (n1 q hq)
    · rcases List.mem_cons.mp hq with rfl | hq
      · exact N0 _ (.head _)
      · exact Nl q (List.mem_append_right _ (.tail _ hq)) (n2 q hq)
  have X₆ : KF.In g₆ := XB.keeps K₆.stays
  have P₆ : Top p loose mean mg mb g₆ := TB.keeps K₆.stays
  refine stN F₆ N₆ (fun h₇ F₇ N₇ => ?_) hk hlo
  exact k h₇ g₆ _ _ T₆ F₇ N₇ hoec (hd'.trans hd0) ⟨ws, hoed⟩ K₆ X₆ P₆
end
end Mine
end

-- E21
section
open PySem PySem.W PySem.Calls PyProof.Rows
set_option maxRecDepth 100000
set_option maxHeartbeats 4000000
namespace Mine
section
variable {prog : Program} {w : World} {A₀ A : Around} {s : Shared} {base h₀ : Heap} {env : Env} {L : Addr} {m : Str → Option Value} {news : List (Addr × Obj)} {K : Frag} {p : Program} {loose : List Str} {mean : ExcName → Option Value} {mg mb : Str → Option Value}
    {R : Result → Shared → Prop} {name qual : Str} {params : Arguments} {body : List Stmt} {scope : Scope} {dV kV doc pm cdv ct oc : Value} {an od : Option Addr} {osl : Array (Option Value)} {f : Addr} {args : Args} {binds : List (Str × Value)}

theorem code_told (B : Below A₀ base [] h₀) (F : Fr h₀ L s.heap m) (X₀ : K.In h₀) (N : News h₀ L s.heap news) (T : Top p loose mean mg mb h₀) (hA : A.frames = some [env]) (hf : env.frame = some L) (hke : env.scope.kind = .function)
    (ho : K.lookup f = some ⟨oc, od, .func (fnOf name qual params body scope dV kV doc pm an cdv ct), osl⟩) (hcd : codeIn K cdv qual = true) (hroom : A.depth < recursionLimit)
    (hbind : BindsTo s (fnOf name qual params body scope dV kV doc pm an cdv ct) args binds) (hloc : ∀ y ∈ binds, scope.names.lookup y.1 = some .local)
    (h : ∀ g L' h₁, Fr h₀ L g m → Fr g L' h₁ (fun y => binds.reverse.lookup y) → News g L' h₁ news → Below A base [env] g → K.In g → Top p loose mean mg mb g →
      wpAny (model prog w) (A.deeper (envOf qual scope L' f cdv)) (execs body (envOf qual scope L' f cdv))
        (fun fl s' => LeaveS0 ([env].filterMap (·.frame)) h₀ L m g R (match fl with | .ret v => v | _ => .none) s')
        (fun e s' => wpAny (model prog w) (A.deeper (envOf qual scope L' f cdv)) (leaving (envOf qual scope L' f cdv) e) (fun _ s'' => R (.error e) s'') (fun e' s'' => R (.error e') s'') s')
        { s with heap := h₁, toks := s.toks + binds.length })
    (hco : scope.isCoroutine = false) (hgen : scope.isGenerator = false) (hk : scope.kind = .function)
    (hcell : ∀ x ∈ scope.names, x.2 ≠ .cell) : codeAny (model prog w) A (.call (.ref f) args) R s := by
  have X := X₀.keeps F.keep
  obtain ⟨FG, BG, st, -⟩ := groundX (R := R) B F N hA hf hke
  refine codeAny_call_def (fd := fnOf name qual params body scope dV kV doc pm an cdv ct) (body := body) (binds := binds) hroom (X _ _ ho) rfl (T.nolimit.keeps F.keep) (codeRec_of X hcd) rfl hbind hcell hloc (fun h₁ hns hk₁ => ?_) hco hgen hk
  refine wpAny_mono (h _ s.heap.objs.size h₁ FG ⟨hns, fun b o e => hk₁ b o (of_hideAll _ e), Nat.le_of_eq (hideAll_size _ _)⟩
    (fun p hp => ⟨hk₁ _ _ (N p hp).1, Nat.ne_of_lt (Heap.lt_size (N p hp).1), hideAll_none _ (List.mem_map_of_mem hp)⟩) BG (X₀.keeps st) (T.keeps st)) (fun fl s' hl => ?_) fun _ _ y => y
  obtain ⟨g', L', m', news', T', F', N', k⟩ := hl
  have nL₀ : h₀.get? L = none := kts_self F
  obtain ⟨oL, es, ep, hLg, hLd, hLk, hLf⟩ := FG.ns
  obtain ⟨sl, hs⟩ := T'.up hLg
  have mem1 : ∀ b, b ∈ [env].filterMap (·.frame) → b = L := fun b hb => by
    rcases memX hf hb with z | z
    · exact z
    · simp at z
  refine k ⟨⟨_, es, ep, F'.keep _ _ hs, hLd, hLk, hLf⟩, fun b o e => F'.keep b o (T'.other b o (st b o e) (fun q => by
    rw [mem1 b q, nL₀] at e
    cases e)), F.above⟩ fun p hp => ⟨(N' p hp).1, fun q => ?_, ?_⟩
  · have := (N' p hp).2.2; rw [q, hs] at this; cases this
  · cases q : h₀.get? p.1 with
    | none => rfl
    | some o =>
      obtain ⟨sl', hs'⟩ := T'.up (st _ _ q)
      have := (N' p hp).2.2
      rw [hs'] at this
      cases this
end
end Mine
end

-- T1
section
open PySem PySem.W PySem.Calls PyProof.Rows
set_option maxRecDepth 100000
set_option maxHeartbeats 8000000
local macro_rules | `(tactic| k_in) => `(tactic| (refine' Frag.In.keeps ?zX (Fr.keep ?zF); (case zF => with_reducible assumption); (case zX => with_reducible assumption)))
local macro_rules | `(tactic| k_inst) => `(tactic| (refine' Mine.inst_of_news ?N ?h1 ?h2; (case N => k_asm); (case h1 => k_mem); (case h2 => k_mem)))
local macro_rules | `(tactic| k_is) => `(tactic| first
  | with_reducible exact Mine.OpC.keep (by with_reducible assumption)
  | with_reducible exact Mine.OpC.item (by with_reducible assumption)
  | with_reducible exact Mine.OpC.has (by with_reducible assumption)
  | with_reducible exact Mine.OpC.str (by with_reducible assumption))
local macro_rules | `(tactic| walk_at "eval Call") => `(tactic| (k_here; (with_reducible show wpAny _ _ (eval (Expr.Call (Expr.Subscript _ _ _) _ _ _) _) _ _ _); refine Mine.Call_kw ?_))
local macro_rules | `(tactic| walk_at "subscriptTail Name Name ref int") => `(tactic| (k_here; (with_reducible show wpAny _ _ (subscriptTail _ _ (Value.ref _) (Value.int _ _)) _ _ _); k_dflt (first
  | (refine' Mine.item_cls ?N ?l ?a ?b ?_; (case N => k_asm); (case l => k_mem); (case a => omega); (case b => omega); k_whole)
  | (refine' Mine.item_word ?N ?l ?H ?a ?b ?_; (case N => k_asm); (case l => k_mem); (case H => assumption); (case a => omega); (case b => omega); k_whole; intro t'))))
local macro_rules | `(tactic| walk_at "call ref") => `(tactic| (k_here; (fail_if_success (with_reducible show wpAny _ _ (call (Value.ref (Mine.clsAt _)) _ _) _ _ _)); k_dflt (refine wpAny_call ?_; first
  | (refine' code_def ?k1 ?k2 ?k3 ?k4 ?k5 ?kA ?kF ?kK ?k6 ?k7 ?k8 ?k9 ?kB ?_ ?c2 ?c3 ?c4 ?c5; (case kA => exact rfl); (case kF => exact rfl); (case kK => exact rfl); (case k1 => k_asm); (case k2 => k_asm); (case k3 => k_asm); (case k4 => k_asm); (case k5 => k_asm); (case k6 => k_is); (case k7 => k_is); (case k8 => k_room); (case k9 => first | exact BindsTo.of_eq rfl | exact binds_K (by k_in) rfl (by k_is) rfl rfl rfl); (case c5 => decide); (case kB => exact locs rfl); (case c2 => exact rfl); (case c3 => exact rfl); (case c4 => exact rfl); k_whole; intro g' L' h' FG' F' N' B' X' T'; (try dsimp only); (try k_fold))
  | k_enter)))
local macro_rules | `(tactic| walk_at "call ref cons nil") => `(tactic| (k_here; (fail_if_success (with_reducible show wpAny _ _ (call (Value.ref (Mine.clsAt _)) _ _) _ _ _)); k_dflt (refine wpAny_call ?_; first
  | (refine' code_def ?k1 ?k2 ?k3 ?k4 ?k5 ?kA ?kF ?kK ?k6 ?k7 ?k8 ?k9 ?kB ?_ ?c2 ?c3 ?c4 ?c5; (case kA => exact rfl); (case kF => exact rfl); (case kK => exact rfl); (case k1 => k_asm); (case k2 => k_asm); (case k3 => k_asm); (case k4 => k_asm); (case k5 => k_asm); (case k6 => k_is); (case k7 => k_is); (case k8 => k_room); (case k9 => first | exact BindsTo.of_eq rfl | exact binds_K (by k_in) rfl (by k_is) rfl rfl rfl); (case c5 => decide); (case kB => exact locs rfl); (case c2 => exact rfl); (case c3 => exact rfl); (case c4 => exact rfl); k_whole; intro g' L' h' FG' F' N' B' X' T'; (try dsimp only); (try k_fold))
  | k_enter)))
local macro_rules | `(tactic| walk_at "call ref") => `(tactic| (k_here; (with_reducible show wpAny _ _ (call (Value.ref (Mine.clsAt _)) _ _) _ _ _); k_dflt
  (refine' Mine.call_op ?F ?X ?N ?m ?i ?f ?z ?_; (case F => k_asm); (case X => k_asm); (case N => k_asm); (case m => with_reducible exact Mine.OpC.exc (by with_reducible assumption)); (case i => with_reducible exact Mine.OpC.init (by with_reducible assumption)); (case f => k_is); (case z => decide); k_whole; intro x' t' h' F' N' l1 l2; (try k_lt l1); (try k_lt l2); (try k_sweep); k_enter)))
local macro_rules | `(tactic| walk_at "setAttr ref") => `(tactic| (k_here; (with_reducible show wpAny _ _ (setAttr (Value.ref _) (PySem.Str.ofString "_MibOperationError__outArgs") _) _ _ _); k_dflt
  (refine' Mine.op_set ?F ?X ?N ?o ?U ?_; (case F => k_asm); (case X => k_asm); (case N => k_asm); (case U => k_updF); (case o => with_reducible assumption); k_whole; intro d' h' F' N' l1; (try dsimp only at N'); (try k_lt l1); (try k_sweep))))
local macro_rules | `(tactic| walk_at "getAttr ref") => `(tactic| (k_here; k_dflt (first
  | ((with_reducible show wpAny _ _ (getAttr (Value.ref _) (PySem.Str.ofString "_MibOperationError__outArgs") _) _ _ _); refine' Mine.op_attr ?F ?X ?I ?o ?l ?v ?_; (case F => k_asm); (case X => k_asm); (case I => k_inst); (case o => with_reducible assumption); (case l => k_get); (case v => k_handed); k_whole)
  | ((with_reducible show wpAny _ _ (getAttr (Value.ref _) (PySem.Str.ofString "__class__") _) _ _ _); refine' Mine.op_class ?F ?X ?I ?o ?n ?t ?_; (case F => k_asm); (case X => k_asm); (case I => k_inst); (case o => with_reducible assumption); (case n => k_is); (case t => k_is); k_whole)
  | ((with_reducible show wpAny _ _ (getAttr (Value.ref _) (PySem.Str.ofString "__name__") _) _ _ _); refine' Mine.op_name ?F ?X ?o ?_; (case F => k_asm); (case X => k_asm); (case o => with_reducible assumption); k_whole; intro u'))))
local macro_rules | `(tactic| walk_at "getMethod ref") => `(tactic| (k_here; k_dflt
  (refine' Mine.op_method ?F ?X ?I ?o ?f ?t ?l ?_; (case F => k_asm); (case X => k_asm); (case I => k_inst); (case o => with_reducible assumption); (case f => first | with_reducible exact Mine.OpC.get (by with_reducible assumption) | with_reducible exact Mine.OpC.keys (by with_reducible assumption) | with_reducible exact Mine.OpC.upd (by with_reducible assumption)); (case t => k_is); (case l => k_get); k_whole)))
local macro_rules | `(tactic| walk_at "formatField str") => `(tactic| (k_here; (with_reducible show wpAny _ _ (formatField (Value.str (Mine.nmAt _) _) _) _ _ _); k_dflt (refine' PyProof.Rows.formatField_str (hsz := ?z) ?_; (case z => exact Mine.nm_len _)); intro t' tk'))
local macro_rules | `(tactic| walk_at "formatField ref") => `(tactic| (k_here; k_dflt (refine' Mine.fmt_dict ?F ?N ?m ?d ?f ?lo ?g ?u ?s _ ?hX ?z ?_; (case F => k_asm); (case N => k_asm); (case m => k_mem); (case d => assumption); (case f => assumption); (case lo => assumption); (case g => exact rfl); (case u => k_units); (case s => first | ((with_reducible refine Mine.show1 ?_ ?_) <;> omega) | ((with_reducible refine Mine.show2 ?_ ?_) <;> omega)); (case hX => first | with_reducible exact Mine.shown2 | (with_reducible refine Mine.shown1 ?_; with_reducible assumption)); (case z => first | ((with_reducible refine Mine.len2 ?_ ?_) <;> omega) | ((with_reducible refine Mine.len1 ?_ ?_ ?_) <;> first | with_reducible assumption | omega)); k_whole); intro h' u' tk' F' N'; (try k_sweep)))
local macro_rules | `(tactic| walk_at "compareOp NotEq str str") => `(tactic| (k_here; k_dflt (refine' Mine.ne_same ?e ?_; (case e => first | with_reducible rfl | with_reducible exact Mine.eq1 _ _ | with_reducible exact Mine.eq2 _ _); k_whole)))
local macro_rules | `(tactic| walk_at "joinParts") => `(tactic| (k_here; (first | (with_reducible show wpAny _ _ (joinParts _ []) _ _ _) | (with_reducible show wpAny _ _ (joinParts _ (evalEach [] _)) _ _ _)); k_dflt (refine' PyProof.Rows.joinParts_nil (hsz := ?z) ?_; (case z => (simp only [Str.length_append, Mine.l1, Mine.l2, Mine.l3, Mine.l4, Mine.l5, Mine.l6, Mine.l7, Mine.l8, Mine.l9, Mine.l10, Mine.l11]; rw [sizeLine_eq]; omega)))))
local macro_rules | `(tactic| walk_at "binaryOp Add str str") => `(tactic| (k_here; (with_reducible show wpAny _ _ (binaryOp Operator.Add (Value.str _ _) (Value.str _ _)) _ _ _); k_dflt (refine' PyProof.Rows.add_str (hsz := ?z) ?_; (case z => (simp only [Str.length_append, Mine.l1, Mine.l2, Mine.l3, Mine.l4, Mine.l5, Mine.l6, Mine.l7, Mine.l8, Mine.l9, Mine.l10, Mine.l11]; rw [sizeLine_eq]; omega))); intro t' tk'))
local macro_rules | `(tactic| walk_at "call builtin:list.sort cons nil") => `(tactic| (k_here; (with_unfolding_all refine' kas_lsort ?F ?N ?U ?e ?z ?y ?T ?t ?_; (case F => k_asm); (case N => k_asm); (case U => k_updF); (case e => kso_lit); (case z => k_units); (case y => k_units); (case T => (kas_look; intro e' h' F' N'; (try dsimp only at N'); kas_types)); (case t => exact rfl); k_whole); intro e' h' F' N'; (try dsimp only at N'); (try k_sweep)))
local macro_rules | `(tactic| walk_at "callWith ref") => `(tactic| (k_here; k_dflt (first
  | (refine' callWith_K ?k1 ?k2 ?_; (case k1 => k_asm); (case k2 => k_is); k_whole)
  | (refine' callWith_K0 ?k1 ?k2 ?_; (case k1 => k_in); (case k2 => k_is); k_whole)
  | (refine' callWith_KW0 ?k1 ?k2 ?k3 ?_; (case k1 => k_asm); (case k2 => k_is); (case k3 => exact rfl); k_whole))))
local macro_rules | `(tactic| walk_at "callWith ref cons nil") => `(tactic| (k_here; k_dflt (first
  | (refine' callWith_K ?k1 ?k2 ?_; (case k1 => k_asm); (case k2 => k_is); k_whole)
  | (refine' callWith_K0 ?k1 ?k2 ?_; (case k1 => k_in); (case k2 => k_is); k_whole)
  | (refine' callWith_KW0 ?k1 ?k2 ?k3 ?_; (case k1 => k_asm); (case k2 => k_is); (case k3 => exact rfl); k_whole))))
local macro_rules | `(tactic| walk_at "callWith ref cons") => `(tactic| (k_here; k_dflt (first
  | (refine' callWith_K ?k1 ?k2 ?_; (case k1 => k_asm); (case k2 => k_is); k_whole)
  | (refine' callWith_K0 ?k1 ?k2 ?_; (case k1 => k_in); (case k2 => k_is); k_whole)
  | (refine' callWith_KW0 ?k1 ?k2 ?k3 ?_; (case k1 => k_asm); (case k2 => k_is); (case k3 => exact rfl); k_whole))))
local macro_rules | `(tactic| walk_at "callWith ref nil") => `(tactic| (k_here; k_dflt (first
  | (refine' callWith_K ?k1 ?k2 ?_; (case k1 => k_asm); (case k2 => k_is); k_whole)
  | (refine' callWith_K0 ?k1 ?k2 ?_; (case k1 => k_in); (case k2 => k_is); k_whole)
  | (refine' callWith_KW0 ?k1 ?k2 ?k3 ?_; (case k1 => k_asm); (case k2 => k_is); (case k3 => exact rfl); k_whole))))
local macro_rules | `(tactic| walk_at "compareOp NotEq ref ref") => `(tactic| (k_here; k_dflt (first
  | (refine' Mine.ne_list2 ?N ?a ?b ?x ?y ?u ?_; (case N => k_asm); (case a => k_mem); (case b => k_mem); (case x => decide +kernel); (case y => decide +kernel); (case u => k_units); k_whole)
  | (refine' Mine.ne_list1 ?N ?a ?b ?x ?u ?_; (case N => k_asm); (case a => k_mem); (case b => k_mem); (case x => decide +kernel); (case u => k_units); k_whole)
  | (refine' Mine.ne_tup2 ?N ?a ?b ?u ?_; (case N => k_asm); (case a => k_mem); (case b => k_mem); (case u => k_units); k_whole))))
local macro_rules | `(tactic| walk_at "compareOp NotEq int int") => `(tactic| (k_here; with_reducible refine Mine.ne_int_same ?_))
local macro_rules | `(tactic| walk_at "exec Try") => `(tactic| (k_here; refine wpAny_Try_except ?_))
local macro_rules | `(tactic| walk_at "noteFrame ref") => `(tactic| (k_here; (rename RaisedN _ _ _ _ _ _ => rkX); k_dflt (refine' Mine.caught_key ?s ?F ?U ?R ?X ?T ?e ?k ?x ?_; (case s => exact rfl); (case R => exact rkX); (case F => assumption); (case U => assumption); (case X => k_asm); (case T => k_asm); (case e => k_is); (case k => exact rfl); (case x => exact rfl); k_whole); intro h' F' N'; (try k_sweep)))
local macro_rules | `(tactic| walk_at "eval Dict cons cons") => `(tactic| (k_here; k_dflt (refine' kdn_str ?q ?F ?N ?b ?a ?l ?e ?n ?_; (case q => rfl); (case F => k_asm); (case N => k_asm); (case b => exact Top.nolimit (by k_asm)); (case a => rfl); (case l => rfl); (case e => exact List.cons_ne_nil _ _); (case n => exact Nat.le_of_ble_eq_true rfl)); intro d' h' o' F' N' l1 lo' hd'; (try k_lt l1)))
local macro_rules | `(tactic| walk_at "call builtin:dict.update") => `(tactic| (k_here; (with_reducible show wpAny _ _ (call (Value.builtin "dict.update") [Value.ref _, Value.ref _]) _ _ _); k_dflt (refine' Mine.upd_dict ?F ?N ?U ?m ?d ?e ?n ?S ?z ?hk ?_; (case F => k_asm); (case N => k_asm); (case U => k_updF); (case m => k_mem); (case d => assumption); (case e => assumption); (case n => refine neN ?_; omega); (case S => assumption); (case z => rw [sizeLine_eq]; exact Nat.le_of_ble_eq_true rfl); (case hk => exact (rfl : _ = [(_, _), (_, _), (_, _)])); k_whole); intro h' o' F' N' hd'; (try dsimp only at N'); (try k_sweep)))
local macro_rules | `(tactic| walk_at "setItem ref str") => `(tactic| (k_here; (with_reducible show wpAny _ _ (setItem (Value.ref _) (Value.str _ _) _) _ _ _); k_dflt (refine' Mine.set_dictN ?F ?N ?U ?d ?z ?_; (case F => k_asm); (case N => k_asm); (case U => k_updF); (case d => assumption); (case z => rw [sizeLine_eq]; exact Nat.le_of_ble_eq_true rfl); k_whole); intro h' o' F' N' hd'; (try dsimp only at N'); (try k_sweep)))
local macro_rules | `(tactic| walk_at "getItem ref str") => `(tactic| (k_here; (with_reducible show wpAny _ _ (getItem (Value.ref _) (Value.str _ _)) _ _ _); k_dflt (refine' Mine.get_dictN ?N ?m ?d ?v ?_; (case N => k_asm); (case m => k_mem); (case d => assumption); (case v => exact rfl); k_whole); (try dsimp only)))
local macro_rules | `(tactic| walk_at "compareOp In str ref") => `(tactic| (k_here; (with_reducible show wpAny _ _ (compareOp CmpOp.In (Value.str _ _) (Value.ref _)) _ _ _); k_dflt (refine' Mine.in_dictN ?N ?m ?d ?S ?v ?_; (case N => k_asm); (case m => k_mem); (case d => assumption); (case S => assumption); (case v => first | exact (rfl : _ = true) | exact (rfl : _ = false)); k_whole); (try dsimp only)))
local macro_rules | `(tactic| walk_at "call ref cons nil") => `(tactic| (k_here; (with_reducible show wpAny _ _ (call (Value.ref (Mine.clsAt _)) [_] []) _ _ _); k_dflt
  (refine' Mine.call_first ?F ?X ?N ?e ?_; (case F => k_asm); (case X => k_asm); (case N => k_asm); (case e => with_reducible assumption); k_whole; intro x' t' t1' h' F' N'; (try k_sweep))))
local macro_rules | `(tactic| walk_at "call ref cons nil") => `(tactic| (k_here; (with_reducible show wpAny _ _ (call (Value.ref 475) _ _) _ _ _); k_dflt
  (refine' Mine.kin_call ?X ?T ?B ?F ?N ?a ?b ?_; (case X => k_asm); (case T => k_asm); (case B => k_asm); (case F => k_asm); (case N => k_asm); (case a => omega); (case b => omega); k_whole; intro l' vs' n' h' tk' kinX F' N'; (try k_sweep))))
local macro_rules | `(tactic| walk_at "exec For Name Call cons nil") => `(tactic| (k_here; (rename Fr _ _ _ _ => lF'); (with_unfolding_all refine' For_invVF (hE := ?kE) lF' ?k1 ?k2 ?_; (case kE => assumption); (case k1 => exact rfl); (case k2 => exact rfl); k_whole)))
local macro_rules | `(tactic| k_is) => `(tactic| with_reducible exact Mine.FirstC.keep (by with_reducible assumption))
local macro_rules | `(tactic| walk_at "pyIter ref") => `(tactic| (k_here; (rename Fr _ _ _ _ => lF'); (rename News _ _ _ _ => lN'); (rename IsRange _ _ _ _ _ _ _ _ => rgX); refine' Mine.range_loop 30 [] ?hL ?hh rgX ?hs ?hz lF' lN' ?_ ?_; (case hL => exact rfl); (case hh => with_unfolding_all rfl); (case hs => decide); (case hz => rfl); clear lF' lN' rgX; focus (intro kI kT kU kH kTk kOwn kLo kHi kOff kFr kNews; (try simp only [List.map_cons, List.map_nil] at kOff); (try simp only [List.cons_append, List.nil_append] at kNews))))
local macro_rules | `(tactic| walk_at "call builtin:isinstance cons nil") => `(tactic| (k_here; (with_reducible show wpAny _ _ (call _ [Value.ref _, Value.ref (Mine.clsAt _)]) _ _ _); k_dflt (refine' Mine.isi_kin ?X ?I ?a ?b ?c ?d ?n ?t ?_; (case X => k_in); (case I => first | (refine' Mine.inst0_of_news ?N ?m; (case N => k_asm); (case m => k_mem)) | k_inst); (case a => omega); (case b => omega); (case c => omega); (case d => omega); (case n => k_is); (case t => k_is); k_whole; intro tk')))
local macro_rules | `(tactic| walk_at "compareOp In int ref") => `(tactic| (k_here; (rename IntsAre _ _ => kinX); k_dflt (refine' Mine.in_ints ?N ?m kinX ?_; (case N => k_asm); (case m => k_mem); k_whole)))
local macro_rules | `(tactic| walk_at "compareOp NotEq bool bool") => `(tactic| (k_here; with_reducible refine Mine.ne_bool_same ?_))
local macro_rules | `(tactic| walk_at "call type:str") => `(tactic| (k_here; (with_reducible show wpAny _ _ (call (Value.type "str") [Value.ref _]) _ _ _); k_dflt (refine' Mine.str_first ?u ?F ?X ?N ?e ?m ?k ?_; (case u => k_units); (case F => k_asm); (case X => k_asm); (case N => k_asm); (case e => with_reducible assumption); (case m => k_mem); (case k => k_mem); k_whole)))
namespace Mine
theorem if_agree1 {z a : Str} {v r M : Option Value} (h : z = a → v = M) (k : r = M) : (if z = a then v else r) = M := by
  split
  · rename_i e; exact h e
  · exact k
def body1 : List Stmt := stmtsOf (nth (stmtsOf lawDef) 2)
theorem turn1_first {w : World} {L fa lc : Addr} {E : Value → Shared → Prop} {s : Shared} {h₀ : Heap} {m mg mb : Str → Option Value} {more : List (Addr × Obj)} {p : Program} {loose : List Str} {mean : ExcName → Option Value} {Q : Flow → Shared → Prop}
    {nc : Nat} {i : Int} {ti : Tok}
    (X : (Mine.hd.heap_39 w.params).In h₀) (T : Top p loose mean mg mb h₀) (B : Below callerA h₀ [] h₀) (F : Fr h₀ L s.heap m)
    (N : News h₀ L s.heap ((lc, W.listOf (clsA.map Value.ref).toArray nc) :: more))
    (hP : PassesOwn (model PySem.Challenge.rw_gr5037_01.row.prog w) (callerA.deeper (envOfC (Str.ofString "law") lawScope L fa (.ref 488))) (envOfC (Str.ofString "law") lawScope L fa (.ref 488)) E)
    (i0 : 0 ≤ i) (i1 : i < 30) (i4 : i ≤ 4)
    (mc : m (Str.ofString "classes") = some (.ref lc)) (mi : m (Str.ofString "i") = some (.int i ti))
    (hq : ∀ h' tk' m' news', Fr h₀ L h' m' → News h₀ L h' news' → (∀ q ∈ ((lc, W.listOf (clsA.map Value.ref).toArray nc) :: more), q ∈ news') →
      (∀ z, [Str.ofString "cls", Str.ofString "one", Str.ofString "kin", Str.ofString "j"].contains z = false → m' z = m z) → Q .next { s with heap := h', toks := tk' }) :
    wpAny (model PySem.Challenge.rw_gr5037_01.row.prog w) (callerA.deeper (envOfC (Str.ofString "law") lawScope L fa (.ref 488))) (execs body1 (envOfC (Str.ofString "law") lawScope L fa (.ref 488))) Q E s := by
  revert X; k_fill; intro X
  have hMk := kstMark
  have F1 := fr_pins [(Str.ofString "i", .int i ti), (Str.ofString "classes", .ref lc)] F (by
    intro q hq
    simp only [List.mem_cons, List.not_mem_nil, or_false] at hq
    rcases hq with rfl | rfl <;> assumption)
  clear F
  dsimp only [kstB] at F1
  conv in (occs := *) lawScope => all_goals whnf
  conv in body1 => whnf
  have hE := first_at w.params i0 i4
  w_strict (
    w_top off
    k_steps
    all_goals ((rename Fr _ _ _ _ => zF); (rename News _ _ _ _ => zN); refine hq _ _ _ _ zF zN ?_ ?_)
    all_goals first | ((intro q hq'; repeat (first | exact hq' | refine List.mem_cons_of_mem _ ?_)); done) | ((intro z hz; (try dsimp only); (repeat (refine if_agree1 (fun e => ?_) ?_; (focus (first | (exact absurd hz (by rw [e]; decide)) | (rw [e]; exact Eq.symm (by assumption)))))); first | rfl | ((repeat' split) <;> first | rfl | (exact absurd (by assumption) Bool.false_ne_true) | (rename_i e; subst e; first | exact absurd hz (by decide) | exact Eq.symm (by assumption)))); done))
end Mine

namespace Mine
theorem turn1_op {w : World} {L fa lc : Addr} {E : Value → Shared → Prop} {s : Shared} {h₀ : Heap} {m mg mb : Str → Option Value} {more : List (Addr × Obj)} {p : Program} {loose : List Str} {mean : ExcName → Option Value} {Q : Flow → Shared → Prop}
    {nc : Nat} {i : Int} {ti : Tok}
    (X : (Mine.hd.heap_39 w.params).In h₀) (T : Top p loose mean mg mb h₀) (B : Below callerA h₀ [] h₀) (F : Fr h₀ L s.heap m)
    (N : News h₀ L s.heap ((lc, W.listOf (clsA.map Value.ref).toArray nc) :: more))
    (hP : PassesOwn (model PySem.Challenge.rw_gr5037_01.row.prog w) (callerA.deeper (envOfC (Str.ofString "law") lawScope L fa (.ref 488))) (envOfC (Str.ofString "law") lawScope L fa (.ref 488)) E)
    (i0 : 0 ≤ i) (i1 : i < 30) (i4 : 5 ≤ i)
    (mc : m (Str.ofString "classes") = some (.ref lc)) (mi : m (Str.ofString "i") = some (.int i ti))
    (hq : ∀ h' tk' m' news', Fr h₀ L h' m' → News h₀ L h' news' → (∀ q ∈ ((lc, W.listOf (clsA.map Value.ref).toArray nc) :: more), q ∈ news') →
      (∀ z, [Str.ofString "cls", Str.ofString "one", Str.ofString "kin", Str.ofString "j"].contains z = false → m' z = m z) → Q .next { s with heap := h', toks := tk' }) :
    wpAny (model PySem.Challenge.rw_gr5037_01.row.prog w) (callerA.deeper (envOfC (Str.ofString "law") lawScope L fa (.ref 488))) (execs body1 (envOfC (Str.ofString "law") lawScope L fa (.ref 488))) Q E s := by
  revert X; k_fill; intro X
  have hMk := kstMark
  have F1 := fr_pins [(Str.ofString "i", .int i ti), (Str.ofString "classes", .ref lc)] F (by
    intro q hq
    simp only [List.mem_cons, List.not_mem_nil, or_false] at hq
    rcases hq with rfl | rfl <;> assumption)
  clear F
  dsimp only [kstB] at F1
  conv in (occs := *) lawScope => all_goals whnf
  conv in body1 => whnf
  have hC := op_at w.params i4 i1
  w_strict (
    w_top off
    k_steps
    all_goals ((rename Fr _ _ _ _ => zF); (rename News _ _ _ _ => zN); refine hq _ _ _ _ zF zN ?_ ?_)
    all_goals first | ((intro q hq'; repeat (first | exact hq' | refine List.mem_cons_of_mem _ ?_)); done) | ((intro z hz; (try dsimp only); (repeat (refine if_agree1 (fun e => ?_) ?_; (focus (first | (exact absurd hz (by rw [e]; decide)) | (rw [e]; exact Eq.symm (by assumption)))))); first | rfl | ((repeat' split) <;> first | rfl | (exact absurd (by assumption) Bool.false_ne_true) | (rename_i e; subst e; first | exact absurd hz (by decide) | exact Eq.symm (by assumption)))); done))
end Mine
end

-- T2
section
open PySem PySem.W PySem.Calls PyProof.Rows
set_option maxRecDepth 100000
set_option maxHeartbeats 8000000
local macro_rules | `(tactic| k_in) => `(tactic| (refine' Frag.In.keeps ?zX (Fr.keep ?zF); (case zF => with_reducible assumption); (case zX => with_reducible assumption)))
local macro_rules | `(tactic| k_inst) => `(tactic| (refine' Mine.inst_of_news ?N ?h1 ?h2; (case N => k_asm); (case h1 => k_mem); (case h2 => k_mem)))
local macro_rules | `(tactic| k_is) => `(tactic| first
  | with_reducible exact Mine.OpC.keep (by with_reducible assumption)
  | with_reducible exact Mine.OpC.item (by with_reducible assumption)
  | with_reducible exact Mine.OpC.has (by with_reducible assumption)
  | with_reducible exact Mine.OpC.str (by with_reducible assumption))
local macro_rules | `(tactic| walk_at "eval Call") => `(tactic| (k_here; (with_reducible show wpAny _ _ (eval (Expr.Call (Expr.Subscript _ _ _) _ _ _) _) _ _ _); refine Mine.Call_kw ?_))
local macro_rules | `(tactic| walk_at "subscriptTail Name Name ref int") => `(tactic| (k_here; (with_reducible show wpAny _ _ (subscriptTail _ _ (Value.ref _) (Value.int _ _)) _ _ _); k_dflt (first
  | (refine' Mine.item_cls ?N ?l ?a ?b ?_; (case N => k_asm); (case l => k_mem); (case a => omega); (case b => omega); k_whole)
  | (refine' Mine.item_word ?N ?l ?H ?a ?b ?_; (case N => k_asm); (case l => k_mem); (case H => assumption); (case a => omega); (case b => omega); k_whole; intro t'))))
local macro_rules | `(tactic| walk_at "call ref") => `(tactic| (k_here; (fail_if_success (with_reducible show wpAny _ _ (call (Value.ref (Mine.clsAt _)) _ _) _ _ _)); k_dflt (refine wpAny_call ?_; first
  | (refine' code_def ?k1 ?k2 ?k3 ?k4 ?k5 ?kA ?kF ?kK ?k6 ?k7 ?k8 ?k9 ?kB ?_ ?c2 ?c3 ?c4 ?c5; (case kA => exact rfl); (case kF => exact rfl); (case kK => exact rfl); (case k1 => k_asm); (case k2 => k_asm); (case k3 => k_asm); (case k4 => k_asm); (case k5 => k_asm); (case k6 => k_is); (case k7 => k_is); (case k8 => k_room); (case k9 => first | exact BindsTo.of_eq rfl | exact binds_K (by k_in) rfl (by k_is) rfl rfl rfl); (case c5 => decide); (case kB => exact locs rfl); (case c2 => exact rfl); (case c3 => exact rfl); (case c4 => exact rfl); k_whole; intro g' L' h' FG' F' N' B' X' T'; (try dsimp only); (try k_fold))
  | k_enter)))
local macro_rules | `(tactic| walk_at "call ref cons nil") => `(tactic| (k_here; (fail_if_success (with_reducible show wpAny _ _ (call (Value.ref (Mine.clsAt _)) _ _) _ _ _)); k_dflt (refine wpAny_call ?_; first
  | (refine' code_def ?k1 ?k2 ?k3 ?k4 ?k5 ?kA ?kF ?kK ?k6 ?k7 ?k8 ?k9 ?kB ?_ ?c2 ?c3 ?c4 ?c5; (case kA => exact rfl); (case kF => exact rfl); (case kK => exact rfl); (case k1 => k_asm); (case k2 => k_asm); (case k3 => k_asm); (case k4 => k_asm); (case k5 => k_asm); (case k6 => k_is); (case k7 => k_is); (case k8 => k_room); (case k9 => first | exact BindsTo.of_eq rfl | exact binds_K (by k_in) rfl (by k_is) rfl rfl rfl); (case c5 => decide); (case kB => exact locs rfl); (case c2 => exact rfl); (case c3 => exact rfl); (case c4 => exact rfl); k_whole; intro g' L' h' FG' F' N' B' X' T'; (try dsimp only); (try k_fold))
  | k_enter)))
local macro_rules | `(tactic| walk_at "call ref") => `(tactic| (k_here; (with_reducible show wpAny _ _ (call (Value.ref (Mine.clsAt _)) _ _) _ _ _); k_dflt
  (refine' Mine.call_op ?F ?X ?N ?m ?i ?f ?z ?_; (case F => k_asm); (case X => k_asm); (case N => k_asm); (case m => with_reducible exact Mine.OpC.exc (by with_reducible assumption)); (case i => with_reducible exact Mine.OpC.init (by with_reducible assumption)); (case f => k_is); (case z => decide); k_whole; intro x' t' h' F' N' l1 l2; (try k_lt l1); (try k_lt l2); (try k_sweep); k_enter)))
local macro_rules | `(tactic| walk_at "setAttr ref") => `(tactic| (k_here; (with_reducible show wpAny _ _ (setAttr (Value.ref _) (PySem.Str.ofString "_MibOperationError__outArgs") _) _ _ _); k_dflt
  (refine' Mine.op_set ?F ?X ?N ?o ?U ?_; (case F => k_asm); (case X => k_asm); (case N => k_asm); (case U => k_updF); (case o => with_reducible assumption); k_whole; intro d' h' F' N' l1; (try dsimp only at N'); (try k_lt l1); (try k_sweep))))
local macro_rules | `(tactic| walk_at "getAttr ref") => `(tactic| (k_here; k_dflt (first
  | ((with_reducible show wpAny _ _ (getAttr (Value.ref _) (PySem.Str.ofString "_MibOperationError__outArgs") _) _ _ _); refine' Mine.op_attr ?F ?X ?I ?o ?l ?v ?_; (case F => k_asm); (case X => k_asm); (case I => k_inst); (case o => with_reducible assumption); (case l => k_get); (case v => k_handed); k_whole)
  | ((with_reducible show wpAny _ _ (getAttr (Value.ref _) (PySem.Str.ofString "__class__") _) _ _ _); refine' Mine.op_class ?F ?X ?I ?o ?n ?t ?_; (case F => k_asm); (case X => k_asm); (case I => k_inst); (case o => with_reducible assumption); (case n => k_is); (case t => k_is); k_whole)
  | ((with_reducible show wpAny _ _ (getAttr (Value.ref _) (PySem.Str.ofString "__name__") _) _ _ _); refine' Mine.op_name ?F ?X ?o ?_; (case F => k_asm); (case X => k_asm); (case o => with_reducible assumption); k_whole; intro u'))))
local macro_rules | `(tactic| walk_at "getMethod ref") => `(tactic| (k_here; k_dflt
  (refine' Mine.op_method ?F ?X ?I ?o ?f ?t ?l ?_; (case F => k_asm); (case X => k_asm); (case I => k_inst); (case o => with_reducible assumption); (case f => first | with_reducible exact Mine.OpC.get (by with_reducible assumption) | with_reducible exact Mine.OpC.keys (by with_reducible assumption) | with_reducible exact Mine.OpC.upd (by with_reducible assumption)); (case t => k_is); (case l => k_get); k_whole)))
local macro_rules | `(tactic| walk_at "formatField str") => `(tactic| (k_here; (with_reducible show wpAny _ _ (formatField (Value.str (Mine.nmAt _) _) _) _ _ _); k_dflt (refine' PyProof.Rows.formatField_str (hsz := ?z) ?_; (case z => exact Mine.nm_len _)); intro t' tk'))
local macro_rules | `(tactic| walk_at "formatField ref") => `(tactic| (k_here; k_dflt (refine' Mine.fmt_dict ?F ?N ?m ?d ?f ?lo ?g ?u ?s _ ?hX ?z ?_; (case F => k_asm); (case N => k_asm); (case m => k_mem); (case d => assumption); (case f => assumption); (case lo => assumption); (case g => exact rfl); (case u => k_units); (case s => first | ((with_reducible refine Mine.show1 ?_ ?_) <;> omega) | ((with_reducible refine Mine.show2 ?_ ?_) <;> omega)); (case hX => first | with_reducible exact Mine.shown2 | (with_reducible refine Mine.shown1 ?_; with_reducible assumption)); (case z => first | ((with_reducible refine Mine.len2 ?_ ?_) <;> omega) | ((with_reducible refine Mine.len1 ?_ ?_ ?_) <;> first | with_reducible assumption | omega)); k_whole); intro h' u' tk' F' N'; (try k_sweep)))
local macro_rules | `(tactic| walk_at "compareOp NotEq str str") => `(tactic| (k_here; k_dflt (refine' Mine.ne_same ?e ?_; (case e => first | with_reducible rfl | with_reducible exact Mine.eq1 _ _ | with_reducible exact Mine.eq2 _ _); k_whole)))
local macro_rules | `(tactic| walk_at "joinParts") => `(tactic| (k_here; (first | (with_reducible show wpAny _ _ (joinParts _ []) _ _ _) | (with_reducible show wpAny _ _ (joinParts _ (evalEach [] _)) _ _ _)); k_dflt (refine' PyProof.Rows.joinParts_nil (hsz := ?z) ?_; (case z => (simp only [Str.length_append, Mine.l1, Mine.l2, Mine.l3, Mine.l4, Mine.l5, Mine.l6, Mine.l7, Mine.l8, Mine.l9, Mine.l10, Mine.l11]; rw [sizeLine_eq]; omega)))))
local macro_rules | `(tactic| walk_at "binaryOp Add str str") => `(tactic| (k_here; (with_reducible show wpAny _ _ (binaryOp Operator.Add (Value.str _ _) (Value.str _ _)) _ _ _); k_dflt (refine' PyProof.Rows.add_str (hsz := ?z) ?_; (case z => (simp only [Str.length_append, Mine.l1, Mine.l2, Mine.l3, Mine.l4, Mine.l5, Mine.l6, Mine.l7, Mine.l8, Mine.l9, Mine.l10, Mine.l11]; rw [sizeLine_eq]; omega))); intro t' tk'))
local macro_rules | `(tactic| walk_at "call builtin:list.sort cons nil") => `(tactic| (k_here; (with_unfolding_all refine' kas_lsort ?F ?N ?U ?e ?z ?y ?T ?t ?_; (case F => k_asm); (case N => k_asm); (case U => k_updF); (case e => kso_lit); (case z => k_units); (case y => k_units); (case T => (kas_look; intro e' h' F' N'; (try dsimp only at N'); kas_types)); (case t => exact rfl); k_whole); intro e' h' F' N'; (try dsimp only at N'); (try k_sweep)))
local macro_rules | `(tactic| walk_at "callWith ref") => `(tactic| (k_here; k_dflt (first
  | (refine' callWith_K ?k1 ?k2 ?_; (case k1 => k_asm); (case k2 => k_is); k_whole)
  | (refine' callWith_K0 ?k1 ?k2 ?_; (case k1 => k_in); (case k2 => k_is); k_whole)
  | (refine' callWith_KW0 ?k1 ?k2 ?k3 ?_; (case k1 => k_asm); (case k2 => k_is); (case k3 => exact rfl); k_whole))))
local macro_rules | `(tactic| walk_at "callWith ref cons nil") => `(tactic| (k_here; k_dflt (first
  | (refine' callWith_K ?k1 ?k2 ?_; (case k1 => k_asm); (case k2 => k_is); k_whole)
  | (refine' callWith_K0 ?k1 ?k2 ?_; (case k1 => k_in); (case k2 => k_is); k_whole)
  | (refine' callWith_KW0 ?k1 ?k2 ?k3 ?_; (case k1 => k_asm); (case k2 => k_is); (case k3 => exact rfl); k_whole))))
local macro_rules | `(tactic| walk_at "callWith ref cons") => `(tactic| (k_here; k_dflt (first
  | (refine' callWith_K ?k1 ?k2 ?_; (case k1 => k_asm); (case k2 => k_is); k_whole)
  | (refine' callWith_K0 ?k1 ?k2 ?_; (case k1 => k_in); (case k2 => k_is); k_whole)
  | (refine' callWith_KW0 ?k1 ?k2 ?k3 ?_; (case k1 => k_asm); (case k2 => k_is); (case k3 => exact rfl); k_whole))))
local macro_rules | `(tactic| walk_at "callWith ref nil") => `(tactic| (k_here; k_dflt (first
  | (refine' callWith_K ?k1 ?k2 ?_; (case k1 => k_asm); (case k2 => k_is); k_whole)
  | (refine' callWith_K0 ?k1 ?k2 ?_; (case k1 => k_in); (case k2 => k_is); k_whole)
  | (refine' callWith_KW0 ?k1 ?k2 ?k3 ?_; (case k1 => k_asm); (case k2 => k_is); (case k3 => exact rfl); k_whole))))
local macro_rules | `(tactic| walk_at "compareOp NotEq ref ref") => `(tactic| (k_here; k_dflt (first
  | (refine' Mine.ne_list2 ?N ?a ?b ?x ?y ?u ?_; (case N => k_asm); (case a => k_mem); (case b => k_mem); (case x => decide +kernel); (case y => decide +kernel); (case u => k_units); k_whole)
  | (refine' Mine.ne_list1 ?N ?a ?b ?x ?u ?_; (case N => k_asm); (case a => k_mem); (case b => k_mem); (case x => decide +kernel); (case u => k_units); k_whole)
  | (refine' Mine.ne_tup2 ?N ?a ?b ?u ?_; (case N => k_asm); (case a => k_mem); (case b => k_mem); (case u => k_units); k_whole))))
local macro_rules | `(tactic| walk_at "compareOp NotEq int int") => `(tactic| (k_here; with_reducible refine Mine.ne_int_same ?_))
local macro_rules | `(tactic| walk_at "exec Try") => `(tactic| (k_here; refine wpAny_Try_except ?_))
local macro_rules | `(tactic| walk_at "noteFrame ref") => `(tactic| (k_here; (rename RaisedN _ _ _ _ _ _ => rkX); k_dflt (refine' Mine.caught_key ?s ?F ?U ?R ?X ?T ?e ?k ?x ?_; (case s => exact rfl); (case R => exact rkX); (case F => assumption); (case U => assumption); (case X => k_asm); (case T => k_asm); (case e => k_is); (case k => exact rfl); (case x => exact rfl); k_whole); intro h' F' N'; (try k_sweep)))
local macro_rules | `(tactic| walk_at "eval Dict cons cons") => `(tactic| (k_here; k_dflt (refine' kdn_str ?q ?F ?N ?b ?a ?l ?e ?n ?_; (case q => rfl); (case F => k_asm); (case N => k_asm); (case b => exact Top.nolimit (by k_asm)); (case a => rfl); (case l => rfl); (case e => exact List.cons_ne_nil _ _); (case n => exact Nat.le_of_ble_eq_true rfl)); intro d' h' o' F' N' l1 lo' hd'; (try k_lt l1)))
local macro_rules | `(tactic| walk_at "call builtin:dict.update") => `(tactic| (k_here; (with_reducible show wpAny _ _ (call (Value.builtin "dict.update") [Value.ref _, Value.ref _]) _ _ _); k_dflt (refine' Mine.upd_dict ?F ?N ?U ?m ?d ?e ?n ?S ?z ?hk ?_; (case F => k_asm); (case N => k_asm); (case U => k_updF); (case m => k_mem); (case d => assumption); (case e => assumption); (case n => refine neN ?_; omega); (case S => assumption); (case z => rw [sizeLine_eq]; exact Nat.le_of_ble_eq_true rfl); (case hk => exact (rfl : _ = [(_, _), (_, _), (_, _)])); k_whole); intro h' o' F' N' hd'; (try dsimp only at N'); (try k_sweep)))
local macro_rules | `(tactic| walk_at "setItem ref str") => `(tactic| (k_here; (with_reducible show wpAny _ _ (setItem (Value.ref _) (Value.str _ _) _) _ _ _); k_dflt (refine' Mine.set_dictN ?F ?N ?U ?d ?z ?_; (case F => k_asm); (case N => k_asm); (case U => k_updF); (case d => assumption); (case z => rw [sizeLine_eq]; exact Nat.le_of_ble_eq_true rfl); k_whole); intro h' o' F' N' hd'; (try dsimp only at N'); (try k_sweep)))
local macro_rules | `(tactic| walk_at "getItem ref str") => `(tactic| (k_here; (with_reducible show wpAny _ _ (getItem (Value.ref _) (Value.str _ _)) _ _ _); k_dflt (refine' Mine.get_dictN ?N ?m ?d ?v ?_; (case N => k_asm); (case m => k_mem); (case d => assumption); (case v => exact rfl); k_whole); (try dsimp only)))
local macro_rules | `(tactic| walk_at "compareOp In str ref") => `(tactic| (k_here; (with_reducible show wpAny _ _ (compareOp CmpOp.In (Value.str _ _) (Value.ref _)) _ _ _); k_dflt (refine' Mine.in_dictN ?N ?m ?d ?S ?v ?_; (case N => k_asm); (case m => k_mem); (case d => assumption); (case S => assumption); (case v => first | exact (rfl : _ = true) | exact (rfl : _ = false)); k_whole); (try dsimp only)))
namespace Mine
theorem if_agree {z a : Str} {v r M : Option Value} (h : z = a → v = M) (k : r = M) : (if z = a then v else r) = M := by
  split
  · rename_i e; exact h e
  · exact k
theorem turn2_rest {w : World} {L fa lw lc : Addr} {E : Value → Shared → Prop} {s : Shared} {h₀ : Heap} {m mg mb : Str → Option Value} {more : List (Addr × Obj)} {p : Program} {loose : List Str} {mean : ExcName → Option Value} {Q : Flow → Shared → Prop}
    {wv : List Value} {nw nc : Nat} {i j place : Int} {ti tj tp tt : Tok} {text : Str}
    (X : (Mine.hd.heap_39 w.params).In h₀) (T : Top p loose mean mg mb h₀) (B : Below callerA h₀ [] h₀) (F : Fr h₀ L s.heap m)
    (N : News h₀ L s.heap ((lw, W.listOf wv.toArray nw) :: (lc, W.listOf (clsA.map Value.ref).toArray nc) :: more))
    (hwv : WordsAre wv nameL)
    (i0 : 5 ≤ i) (i1 : i < 30) (j0 : 5 ≤ j) (j1 : j < 30) (p0 : 0 ≤ place) (p1 : place < 100) (htl : PySem.Str.length text ≤ 7) (htr : reprText text = Str.ofString "'" ++ text ++ Str.ofString "'")
    (mc : m (Str.ofString "classes") = some (.ref lc)) (mw : m (Str.ofString "words") = some (.ref lw)) (mi : m (Str.ofString "i") = some (.int i ti)) (mj : m (Str.ofString "j") = some (.int j tj))
    (mp : m (Str.ofString "place") = some (.int place tp)) (mt : m (Str.ofString "text") = some (.str text tt))
    (hq : ∀ h' tk' m' news', Fr h₀ L h' m' → News h₀ L h' news' → (∀ q ∈ ((lw, W.listOf wv.toArray nw) :: (lc, W.listOf (clsA.map Value.ref).toArray nc) :: more), q ∈ news') →
      (∀ z, [Str.ofString "first", Str.ofString "second", Str.ofString "inside", Str.ofString "told", Str.ofString "handed"].contains z = false → m' z = m z) → Q .next { s with heap := h', toks := tk' }) :
    wpAny (model PySem.Challenge.rw_gr5037_01.row.prog w) (callerA.deeper (envOfC (Str.ofString "law") lawScope L fa (.ref 488))) (execs body2b (envOfC (Str.ofString "law") lawScope L fa (.ref 488))) Q E s := by
  revert X; k_fill; intro X
  have hMk := kstMark
  have F1 := fr_pins [(Str.ofString "text", .str text tt), (Str.ofString "place", .int place tp), (Str.ofString "j", .int j tj), (Str.ofString "i", .int i ti), (Str.ofString "words", .ref lw), (Str.ofString "classes", .ref lc)] F (by
    intro q hq
    simp only [List.mem_cons, List.not_mem_nil, or_false] at hq
    rcases hq with rfl | rfl | rfl | rfl | rfl | rfl <;> assumption)
  clear F
  dsimp only [kstB] at F1
  conv in (occs := *) lawScope => all_goals whnf
  conv in body2b => whnf
  have hC := op_at w.params i0 i1
  have hD := op_at w.params j0 j1
  have hli := nm_len30 i
  have hlj := nm_len30 j
  have hlp := len_int p0 (by omega : place < 200)
  have hlq := len_int (place := place + 1) (by omega) (by omega)
  w_strict (
    w_top off
    k_steps
    all_goals ((rename Fr _ _ _ _ => zF); (rename News _ _ _ _ => zN); refine hq _ _ _ _ zF zN ?_ ?_)
    all_goals first | ((intro q hq'; repeat (first | exact hq' | refine List.mem_cons_of_mem _ ?_)); done) | ((intro z hz; (try dsimp only); (repeat (refine if_agree (fun e => ?_) ?_; (focus (first | (exact absurd hz (by rw [e]; decide)) | (rw [e]; exact Eq.symm (by assumption)))))); first | rfl | ((repeat' split) <;> first | rfl | (exact absurd (by assumption) Bool.false_ne_true) | (rename_i e; subst e; first | exact absurd hz (by decide) | exact Eq.symm (by assumption)))); done))
end Mine
end

-- T3
section
open PySem PySem.W PySem.Calls PyProof.Rows
set_option maxRecDepth 100000
set_option maxHeartbeats 8000000
namespace Mine
theorem sub_contains {z : Str} {l l' : List Str} (h : ∀ x ∈ l, x ∈ l') (e : l'.contains z = false) : l.contains z = false := by
  rw [Bool.eq_false_iff] at e ⊢
  exact fun q => e (List.contains_iff_mem.mpr (h _ (List.contains_iff_mem.mp q)))
theorem turn2_rest' {w : World} {L fa lw lc : Addr} {E : Value → Shared → Prop} {s : Shared} {h₀ : Heap} {m mg mb : Str → Option Value} {news : List (Addr × Obj)} {p : Program} {loose : List Str} {mean : ExcName → Option Value} {Q : Flow → Shared → Prop}
    {wv : List Value} {nw nc : Nat} {i j place : Int} {ti tj tp tt : Tok} {text : Str}
    (X : (Mine.hd.heap_39 w.params).In h₀) (T : Top p loose mean mg mb h₀) (B : Below callerA h₀ [] h₀) (F : Fr h₀ L s.heap m)
    (N : News h₀ L s.heap news) (hw : (lw, W.listOf wv.toArray nw) ∈ news) (hc : (lc, W.listOf (clsA.map Value.ref).toArray nc) ∈ news)
    (hwv : WordsAre wv nameL)
    (i0 : 5 ≤ i) (i1 : i < 30) (j0 : 5 ≤ j) (j1 : j < 30) (p0 : 0 ≤ place) (p1 : place < 100) (htl : PySem.Str.length text ≤ 7) (htr : reprText text = Str.ofString "'" ++ text ++ Str.ofString "'")
    (mc : m (Str.ofString "classes") = some (.ref lc)) (mw : m (Str.ofString "words") = some (.ref lw)) (mi : m (Str.ofString "i") = some (.int i ti)) (mj : m (Str.ofString "j") = some (.int j tj))
    (mp : m (Str.ofString "place") = some (.int place tp)) (mt : m (Str.ofString "text") = some (.str text tt))
    (hq : ∀ h' tk' m' news', Fr h₀ L h' m' → News h₀ L h' news' → (∀ q ∈ news, q ∈ news') →
      (∀ z, [Str.ofString "first", Str.ofString "second", Str.ofString "inside", Str.ofString "told", Str.ofString "handed"].contains z = false → m' z = m z) → Q .next { s with heap := h', toks := tk' }) :
    wpAny (model PySem.Challenge.rw_gr5037_01.row.prog w) (callerA.deeper (envOfC (Str.ofString "law") lawScope L fa (.ref 488))) (execs body2b (envOfC (Str.ofString "law") lawScope L fa (.ref 488))) Q E s :=
  turn2_rest (more := news) X T B F (fun q hq => by
    rcases List.mem_cons.mp hq with rfl | hq
    · exact N _ hw
    · rcases List.mem_cons.mp hq with rfl | hq
      · exact N _ hc
      · exact N _ hq) hwv i0 i1 j0 j1 p0 p1 htl htr mc mw mi mj mp mt (fun h' tk' m' news' F' N' a b => hq h' tk' m' news' F' N' (fun q hq => a q (.tail _ (.tail _ hq))) b)
theorem fm_lo (x : Int) {n : Int} (h : 0 < n) : 0 ≤ Int.fmod x n := Int.fmod_nonneg_of_pos x h
theorem fm_hi (x : Int) {n : Int} (h : 0 < n) : Int.fmod x n < n := Int.fmod_lt_of_pos x h
def txtOf (r : Int) : Str := Txt.slice (Str.ofString "abcdefg") none (some (1 + r))
theorem txt_ok {r : Int} (h0 : 0 ≤ r) (h1 : r < 7) : PySem.Str.length (txtOf r) ≤ 7 ∧ reprText (txtOf r) = Str.ofString "'" ++ txtOf r ++ Str.ofString "'" := by
  have : r = 0 ∨ r = 1 ∨ r = 2 ∨ r = 3 ∨ r = 4 ∨ r = 5 ∨ r = 6 := by omega
  rcases this with rfl | rfl | rfl | rfl | rfl | rfl | rfl <;> exact ⟨by decide +kernel, by decide +kernel⟩
end Mine
local macro_rules | `(tactic| walk_at "call ref cons nil") => `(tactic| (k_here; (with_reducible show wpAny _ _ (call (Value.ref 468) _ _) _ _ _); (rename (PyData.layable0 _ = true) => nL'); (rename IntsAre _ _ => nI'); (rename Heap.IsList _ _ _ => nH'); (rename (¬ (_ < Int.ofNat _)) => nC'); k_dflt
  (refine' Mine.num_call nL' nC' nH' nI' ?X ?T ?B ?F ?N ?a ?b ?_; (case X => k_asm); (case T => k_asm); (case B => k_asm); (case F => k_asm); (case N => k_asm); (case a => omega); (case b => omega); k_whole; intro v' t' h' tk' F' N'; (try k_sweep))))
local macro_rules | `(tactic| walk_at "execs cons") => `(tactic| ((with_reducible show wpAny _ _ (execs (Stmt.Assign [Expr.Tuple (Expr.Name (Str.ofString "first") _ :: _) _ _] _ _ :: _) _) _ _ _); k_dflt (refine' Mine.turn2_rest' ?X ?T ?B ?F ?N ?hw ?hc ?wv ?i0 ?i1 ?j0 ?j1 ?p0 ?p1 ?tl ?tr ?mc ?mw ?mi ?mj ?mp ?mt ?_; (case X => k_asm); (case T => k_asm); (case B => k_asm); (case F => k_asm); (case N => k_asm); (case hw => k_mem); (case hc => k_mem); (case wv => assumption); (case mc => exact rfl); (case mw => exact rfl); (case mi => exact rfl); (case mj => exact rfl); (case mp => exact rfl); (case mt => exact rfl); (case i0 => exact Int.le_add_of_nonneg_right (Mine.fm_lo _ (by decide))); (case i1 => exact Int.add_lt_add_left (Mine.fm_hi _ (by decide)) 5); (case j0 => exact Int.le_add_of_nonneg_right (Mine.fm_lo _ (by decide))); (case j1 => exact Int.add_lt_add_left (Mine.fm_hi _ (by decide)) 5); (case p0 => exact Mine.fm_lo _ (by decide)); (case p1 => exact Mine.fm_hi _ (by decide)); (case tl => exact (Mine.txt_ok (Mine.fm_lo _ (by decide)) (Mine.fm_hi _ (by decide))).1); (case tr => exact (Mine.txt_ok (Mine.fm_lo _ (by decide)) (Mine.fm_hi _ (by decide))).2)); intro h' tk' m' news' F' N' zMem zAgr))
namespace Mine
theorem turn2 {w : World} {L fa lw lc ls : Addr} {E : Value → Shared → Prop} {s : Shared} {h₀ : Heap} {m mg mb : Str → Option Value} {more : List (Addr × Obj)} {p : Program} {loose : List Str} {mean : ExcName → Option Value} {Q : Flow → Shared → Prop}
    {wv : List Value} {nw nc : Nat} {k : Int} {tk : Tok} {ns : List Int} {vs : List Value}
    (hlay : (PyData.list (ns.map PyData.int)).layable0 = true) (hcond : ¬ ((63 : Nat) : Int) < (ns.length : Int))
    (hl : h₀.IsList ls vs.toArray) (hI : IntsAre vs ns)
    (X : (Mine.hd.heap_39 w.params).In h₀) (T : Top p loose mean mg mb h₀) (B : Below callerA h₀ [] h₀) (F : Fr h₀ L s.heap m)
    (N : News h₀ L s.heap ((lw, W.listOf wv.toArray nw) :: (lc, W.listOf (clsA.map Value.ref).toArray nc) :: more))
    (hwv : WordsAre wv nameL)
    (k0 : 0 ≤ k) (k1 : k < 3)
    (mc : m (Str.ofString "classes") = some (.ref lc)) (mw : m (Str.ofString "words") = some (.ref lw)) (mk : m (Str.ofString "k") = some (.int k tk)) (ms : m (Str.ofString "script") = some (.ref ls))
    (hq : ∀ h' tk' m' news', Fr h₀ L h' m' → News h₀ L h' news' → (∀ q ∈ ((lw, W.listOf wv.toArray nw) :: (lc, W.listOf (clsA.map Value.ref).toArray nc) :: more), q ∈ news') →
      (∀ z, [Str.ofString "drawn", Str.ofString "place", Str.ofString "i", Str.ofString "j", Str.ofString "text", Str.ofString "first", Str.ofString "second", Str.ofString "inside", Str.ofString "told", Str.ofString "handed"].contains z = false → m' z = m z) → Q .next { s with heap := h', toks := tk' }) :
    wpAny (model PySem.Challenge.rw_gr5037_01.row.prog w) (callerA.deeper (envOfC (Str.ofString "law") lawScope L fa (.ref 488))) (execs body2 (envOfC (Str.ofString "law") lawScope L fa (.ref 488))) Q E s := by
  revert X; k_fill; intro X
  have hMk := kstMark
  have F1 := fr_pins [(Str.ofString "k", .int k tk), (Str.ofString "script", .ref ls), (Str.ofString "words", .ref lw), (Str.ofString "classes", .ref lc)] F (by
    intro q hq
    simp only [List.mem_cons, List.not_mem_nil, or_false] at hq
    rcases hq with rfl | rfl | rfl | rfl <;> assumption)
  clear F
  dsimp only [kstB] at F1
  conv in (occs := *) lawScope => all_goals whnf
  conv in body2 => whnf
  w_strict (
    w_top off
    k_steps
    all_goals (refine hq _ _ _ _ (by assumption) (by assumption) ?_ ?_)
    all_goals (rename_i zM zA)
    all_goals first
      | (intro q hq'; refine zM q ?_; (repeat (first | exact hq' | refine List.mem_cons_of_mem _ ?_)); done)
      | (intro z hz; refine (zA z (sub_contains (by decide) hz)).trans ?_; (try dsimp only); (repeat' split) <;> first | rfl | (exact absurd (by assumption) Bool.false_ne_true) | (rename_i e; subst e; first | exact absurd hz (by decide) | exact Eq.symm (by assumption))))
end Mine
end

-- T4
section
open PySem PySem.W PySem.Calls PyProof.Rows
set_option maxRecDepth 100000
set_option maxHeartbeats 8000000
namespace Mine
theorem inst_ofO {h₀ h : Heap} {L e C d : Addr} {oe od : Obj} {news : List (Addr × Obj)} (N : News h₀ L h news) (hc : oe.cls = .ref C) (hd : oe.dict = some d) (hw : ∃ ws, oe.data = .fields ws) (h1 : (e, oe) ∈ news) (h2 : (d, od) ∈ news) : W.InstAt h e oe C (some od) :=
  ⟨(N _ h1).1, hc, (by obtain ⟨ws, e⟩ := hw; unfold notCls; rw [e]), by rw [hd]; exact (N _ h2).1⟩
def body3 : List Stmt := (stmtsOf lawDef).drop 4
end Mine
namespace Mine
theorem ns_mib (P : Params) : nsIn (Mine.hd.heap_39 P) mainGlobals (Str.ofString "MibOperationError") = some (some (.ref 136)) := by kernel_rfl
theorem sub_24 (P : Params) : subIn (Mine.hd.heap_39 P) (.ref 364) (.ref 136) = some true := by kernel_rfl
theorem sub_25 (P : Params) : subIn (Mine.hd.heap_39 P) (.ref 376) (.ref 136) = some true := by kernel_rfl
theorem sub_26 (P : Params) : subIn (Mine.hd.heap_39 P) (.ref 388) (.ref 136) = some true := by kernel_rfl
end Mine
namespace Mine
section
variable {h₀ h : Heap} {L x : Addr} {oe : Obj} {a b t1 t2 t3 t4 t5 t6 t7 : Addr × Obj} {l : List (Addr × Obj)}
theorem cut_walks (hc : oe.cls = .ref 388) (N : News h₀ L h (a :: b :: (x, oe) :: t1 :: t2 :: t3 :: l)) : News h₀ L h (a :: b :: (x, oe) :: l) := fun q hq => N q (by
  simp only [List.mem_cons] at hq ⊢
  rcases hq with rfl | rfl | rfl | hq
  · exact .inl rfl
  · exact .inr (.inl rfl)
  · exact .inr (.inr (.inl rfl))
  · exact .inr (.inr (.inr (.inr (.inr (.inr hq))))))
theorem cut_writes (hc : oe.cls = .ref 364) (N : News h₀ L h (a :: b :: (x, oe) :: t1 :: t2 :: t3 :: t4 :: t5 :: l)) : News h₀ L h (a :: b :: (x, oe) :: l) := fun q hq => N q (by
  simp only [List.mem_cons] at hq ⊢
  rcases hq with rfl | rfl | rfl | hq
  · exact .inl rfl
  · exact .inr (.inl rfl)
  · exact .inr (.inr (.inl rfl))
  · exact .inr (.inr (.inr (.inr (.inr (.inr (.inr (.inr hq))))))))
theorem cut_reads (hc : oe.cls = .ref 376) (N : News h₀ L h (a :: b :: (x, oe) :: t1 :: t2 :: t3 :: t4 :: t5 :: t6 :: t7 :: l)) : News h₀ L h (a :: b :: (x, oe) :: l) := fun q hq => N q (by
  simp only [List.mem_cons] at hq ⊢
  rcases hq with rfl | rfl | rfl | hq
  · exact .inl rfl
  · exact .inr (.inl rfl)
  · exact .inr (.inr (.inl rfl))
  · exact .inr (.inr (.inr (.inr (.inr (.inr (.inr (.inr (.inr (.inr hq))))))))))
end
theorem isi_25 (P : Params) : IsiC (Mine.hd.heap_39 P) 376 ∧ mroIn (Mine.hd.heap_39 P) 376 (.ref 376) = some true := ⟨isi_at P (k := 25) (by decide) (by decide), by kernel_rfl⟩
theorem isi_26 (P : Params) : IsiC (Mine.hd.heap_39 P) 388 ∧ mroIn (Mine.hd.heap_39 P) 388 (.ref 388) = some true := ⟨isi_at P (k := 26) (by decide) (by decide), by kernel_rfl⟩
theorem isi_24 (P : Params) : IsiC (Mine.hd.heap_39 P) 364 ∧ mroIn (Mine.hd.heap_39 P) 364 (.ref 364) = some true := ⟨isi_at P (k := 24) (by decide) (by decide), by kernel_rfl⟩
theorem isi_self {prog : Program} {w : World} {A : Around} {E : Value → Shared → Prop} {s : Shared} {K : Frag} {x C : Addr} {ox : Obj} {od : Option Obj} {Q : Value → Shared → Prop} (X : K.In s.heap) (I : W.InstAt s.heap x ox C od) (hC : IsiC K C ∧ mroIn K C (.ref C) = some true)
    (hn : specialIn K (.builtin "object.__class__") "__get__" = some (some (.builtin "getset_descriptor.__get__"))) (ht : takesIn K (.builtin "object.__class__") = some true) (h : ∀ tk, Q (.bool true) { s with toks := tk }) :
    wpAny (model prog w) A (call (.builtin "isinstance") [.ref x, .ref C]) Q E s := isi_callE X I hC.1 hC.1 hn ht hC.2 (.inr rfl) h
theorem news_up {h₀ h : Heap} {L : Addr} {news : List (Addr × Obj)} {q : Addr × Obj} (N : News h₀ L h news) (hq : q ∈ news) : News h₀ L h (q :: news) := fun z hz => by
  rcases List.mem_cons.mp hz with rfl | hz
  · exact N _ hq
  · exact N _ hz
end Mine
local macro_rules | `(tactic| k_in) => `(tactic| (refine' Frag.In.keeps ?zX (Fr.keep ?zF); (case zF => with_reducible assumption); (case zX => with_reducible assumption)))
local macro_rules | `(tactic| k_is) => `(tactic| first
  | with_reducible exact Mine.OpC.keep (by with_reducible assumption)
  | with_reducible exact Mine.OpC.str (by with_reducible assumption))
local macro_rules | `(tactic| k_inst) => `(tactic| (refine' Mine.inst_ofO ?N ?hc ?hd ?hw ?h1 ?h2; (case N => k_asm); (case hc => assumption); (case hd => assumption); (case hw => assumption); (case h1 => k_mem); (case h2 => k_mem)))
local macro_rules | `(tactic| walk_at "call ref nil") => `(tactic| (k_here; k_dflt
  (refine' Mine.call_op ?F ?X ?N ?m ?i ?f ?z ?_; (case F => k_asm); (case X => k_asm); (case N => k_asm); (case m => with_reducible exact Mine.OpC.exc (by with_reducible assumption)); (case i => with_reducible exact Mine.OpC.init (by with_reducible assumption)); (case f => k_is); (case z => decide); k_whole; intro x' t' h' F' N' l1 l2; (try k_lt l1); (try k_lt l2); (try k_sweep); k_enter)))
local macro_rules | `(tactic| walk_at "call ref cons nil") => `(tactic| (k_here; (with_reducible show wpAny _ _ (call (Value.ref 482) _ _) _ _ _); k_dflt (refine wpAny_call ?_; (refine' Mine.code_told ?k1 ?k2 ?k3 ?k4 ?k5 ?kA ?kF ?kK ?k6 ?k7 ?k8 ?k9 ?kB ?_ ?c2 ?c3 ?c4 ?c5; (case kA => exact rfl); (case kF => exact rfl); (case kK => exact rfl); (case k1 => k_asm); (case k2 => k_asm); (case k3 => k_asm); (case k4 => k_asm); (case k5 => k_asm); (case k6 => k_is); (case k7 => k_is); (case k8 => k_room); (case k9 => exact BindsTo.of_eq rfl); (case kB => exact locs rfl); (case c2 => exact rfl); (case c3 => exact rfl); (case c4 => exact rfl); (case c5 => decide); k_whole; intro g' L' h' FG' F' N' B' X' T'; (try dsimp only); (try k_lift B'); (try k_fold)))))
local macro_rules | `(tactic| walk_at "setAttr ref") => `(tactic| (k_here; (with_reducible show wpAny _ _ (setAttr (Value.ref _) (PySem.Str.ofString "_MibOperationError__outArgs") _) _ _ _); k_dflt
  (refine' Mine.op_set ?F ?X ?N ?o ?U ?_; (case F => k_asm); (case X => k_asm); (case N => k_asm); (case U => k_updF); (case o => with_reducible assumption); k_whole; intro d' h' F' N' l1; (try dsimp only at N'); (try k_lt l1); (try k_sweep))))
local macro_rules | `(tactic| walk_at "exec Raise some none") => `(tactic| (k_here; (refine Mine.Raise_ownP Mine.hd.heap_39 ?_ ?_); (focus (k_dflt (first | exact rfl | assumption)))))
local macro_rules | `(tactic| walk_at "RaisableO") => `(tactic| (k_dflt (refine' Mine.raisable_own ?F ?X ?N ?m ?o ?_; (case F => k_asm); (case X => k_asm); (case N => k_asm); (case m => k_mem); (case o => with_reducible assumption); k_whole)))
local macro_rules | `(tactic| walk_at "leaving ref") => `(tactic| (k_here; k_dflt (first
  | (refine' Mine.leave_onD ?kf ?k1 ?k2 ?k3 ?k4 ?_; (case kf => exact rfl); (case k3 => assumption); (case k2 => assumption); (case k1 => assumption); (case k4 => assumption); k_whole; intro h' R' U'; (try dsimp only at R' U' ⊢))
  | (refine' Mine.leave_firstD ?k1 ?k2 ?k3 ?k4 ?_ ?k5; (case k5 => exact rfl); (case k2 => k_asm); (case k3 => k_asm); (case k4 => k_mem); (case k1 => assumption); k_whole; intro h' R' U'; (try dsimp only at R' U' ⊢)))))
local macro_rules | `(tactic| walk_at "noteFrame ref") => `(tactic| (k_here; (rename Mine.RaisedD _ _ _ _ _ _ _ _ => rdX); k_dflt (refine' Mine.caught_D ?U rdX ?F ?K ?hsm ?XB ?TB ?ex ?ht ?hc ?hb ?hs ?_ ?hk ?hlo ?hx ?hd; (case U => k_updF); (case F => assumption); (case K => assumption); (case hsm => assumption); (case XB => assumption); (case TB => assumption); (case ex => exact Mine.ns_mib _); (case ht => exact Mine.OpC.typ (Mine.op_5 _)); (case hc => exact Mine.cls_some (Mine.op_5 _)); (case hb => exact Mine.OpC.base (Mine.op_5 _)); (case hs => first | with_reducible exact Mine.sub_25 _ | with_reducible exact Mine.sub_26 _ | with_reducible exact Mine.sub_24 _); (case hk => exact rfl); (case hlo => exact rfl); (case hx => exact rfl); (case hd => decide); k_whole; intro h' g' oe tk' T' F' N' hcls' hdic' hdat' B' X' P'; (try dsimp only at N'); (try k_fold))))
local macro_rules | `(tactic| walk_at "bind") => `(tactic| (k_here; k_dflt (refine' name_goes_keeps ?F ?N ?_ ?a ?b; (case a => exact rfl); (case b => exact rfl); (case F => k_asm); (case N => k_asm); k_whole; intro h' v' F' N'; (try dsimp only))))
local macro_rules | `(tactic| walk_at "getAttr ref") => `(tactic| (k_here; k_dflt (first
  | ((with_reducible show wpAny _ _ (getAttr (Value.ref _) (PySem.Str.ofString "_MibOperationError__outArgs") _) _ _ _); refine' Mine.op_attr ?F ?X ?I ?o ?l ?v ?_; (case F => k_asm); (case X => k_asm); (case I => k_inst); (case o => with_reducible assumption); (case l => k_get); (case v => k_handed); k_whole)
  | ((with_reducible show wpAny _ _ (getAttr (Value.ref _) (PySem.Str.ofString "__class__") _) _ _ _); refine' Mine.op_class ?F ?X ?I ?o ?n ?t ?_; (case F => k_asm); (case X => k_asm); (case I => k_inst); (case o => with_reducible assumption); (case n => k_is); (case t => k_is); k_whole)
  | ((with_reducible show wpAny _ _ (getAttr (Value.ref _) (PySem.Str.ofString "__name__") _) _ _ _); refine' Mine.op_name ?F ?X ?o ?_; (case F => k_asm); (case X => k_asm); (case o => with_reducible assumption); k_whole; intro u'))))
local macro_rules | `(tactic| walk_at "getMethod ref") => `(tactic| (k_here; k_dflt
  (refine' Mine.op_method ?F ?X ?I ?o ?f ?t ?l ?_; (case F => k_asm); (case X => k_asm); (case I => k_inst); (case o => with_reducible assumption); (case f => first | with_reducible exact Mine.OpC.get (by with_reducible assumption) | with_reducible exact Mine.OpC.keys (by with_reducible assumption) | with_reducible exact Mine.OpC.upd (by with_reducible assumption)); (case t => k_is); (case l => k_get); k_whole)))
local macro_rules | `(tactic| walk_at "compareOp NotEq int int") => `(tactic| (k_here; with_reducible refine Mine.ne_int_same ?_))
local macro_rules | `(tactic| walk_at "call builtin:isinstance cons nil") => `(tactic| (k_here; (with_reducible show wpAny _ _ (call _ [Value.ref _, Value.ref _]) _ _ _); k_dflt (refine' Mine.isi_self ?X ?I ?C ?n ?t ?_; (case X => k_in); (case I => k_inst); (case C => first | with_reducible exact Mine.isi_25 _ | with_reducible exact Mine.isi_26 _ | with_reducible exact Mine.isi_24 _); (case n => k_is); (case t => k_is); k_whole; intro tk')))
local macro_rules | `(tactic| walk_at "call ref cons nil") => `(tactic| (k_here; (with_reducible show wpAny _ _ (call (Value.ref 119) _ _) _ _ _); k_dflt (refine wpAny_call ?_; (refine' code_def ?k1 ?k2 ?k3 ?k4 ?k5 ?kA ?kF ?kK ?k6 ?k7 ?k8 ?k9 ?kB ?_ ?c2 ?c3 ?c4 ?c5; (case kA => exact rfl); (case kF => exact rfl); (case kK => exact rfl); (case k1 => k_asm); (case k2 => k_asm); (case k3 => k_asm); (case k4 => k_asm); (case k5 => k_asm); (case k6 => k_is); (case k7 => k_is); (case k8 => k_room); (case k9 => exact binds_K (by k_in) rfl (by k_is) rfl rfl rfl); (case c5 => decide); (case kB => exact locs rfl); (case c2 => exact rfl); (case c3 => exact rfl); (case c4 => exact rfl); k_whole; intro g' L' h' FG' F' N' B' X' T'; (try dsimp only); (try k_fold)))))
local macro_rules | `(tactic| walk_at "LeaveS0") => `(tactic| ((rename News _ _ _ _ => zN); (first | (replace zN := Mine.cut_reads (by assumption) zN) | (replace zN := Mine.cut_walks (by assumption) zN) | (replace zN := Mine.cut_writes (by assumption) zN)); (k_dflt (refine' leaveS0_ ?F zN ?T ?_; (case F => k_asm); (case T => assumption); k_whole)); intro kF kN; ground_anew kF; (have kX := kFor kF (by k_asm)); kts_tail))
local macro_rules | `(tactic| walk_at "callWith ref cons nil") => `(tactic| (k_here; k_dflt (first
  | (refine' callWith_K ?k1 ?k2 ?_; (case k1 => k_asm); (case k2 => k_is); k_whole)
  | (refine' callWith_K0 ?k1 ?k2 ?_; (case k1 => k_in); (case k2 => k_is); k_whole)
  | (refine' callWith_KW0 ?k1 ?k2 ?k3 ?_; (case k1 => k_asm); (case k2 => k_is); (case k3 => exact rfl); k_whole))))
local macro_rules | `(tactic| walk_at "callWith ref cons") => `(tactic| (k_here; k_dflt (first
  | (refine' callWith_K ?k1 ?k2 ?_; (case k1 => k_asm); (case k2 => k_is); k_whole)
  | (refine' callWith_K0 ?k1 ?k2 ?_; (case k1 => k_in); (case k2 => k_is); k_whole)
  | (refine' callWith_KW0 ?k1 ?k2 ?k3 ?_; (case k1 => k_asm); (case k2 => k_is); (case k3 => exact rfl); k_whole))))
local macro_rules | `(tactic| walk_at "callWith ref nil") => `(tactic| (k_here; k_dflt (first
  | (refine' callWith_K ?k1 ?k2 ?_; (case k1 => k_asm); (case k2 => k_is); k_whole)
  | (refine' callWith_K0 ?k1 ?k2 ?_; (case k1 => k_in); (case k2 => k_is); k_whole)
  | (refine' callWith_KW0 ?k1 ?k2 ?k3 ?_; (case k1 => k_asm); (case k2 => k_is); (case k3 => exact rfl); k_whole))))
namespace Mine
theorem tail {w : World} {L fa : Addr} {E : Value → Shared → Prop} {s : Shared} {h₀ : Heap} {m mg mb : Str → Option Value} {p : Program} {loose : List Str} {mean : ExcName → Option Value} {Q : Flow → Shared → Prop} {wc : Obj} {cv : Option Value}
    (X : (Mine.hd.heap_39 w.params).In h₀) (T : Top p loose mean mg mb h₀) (B : Below callerA h₀ [] h₀) (F : Fr h₀ L s.heap m)
    (N : News h₀ L s.heap [(L + 1, wc), (484, tabObj #[])]) (hcell : wc.data = Data.cell cv) (codeHd : CodeHd h₀ (488, 484).fst (488, 484).snd) (l0 : @LT.lt Nat _ 484 L)
    (hq : ∀ h' tk' m' ps news', Fr h₀ L h' m' → News h₀ L h' ((484, tabObj ps) :: news') → Q (.ret (.bool true)) { s with heap := h', toks := tk' }) :
    wpAny (model PySem.Challenge.rw_gr5037_01.row.prog w) (callerA.deeper (envOfC (Str.ofString "law") lawScope L fa (.ref 488))) (execs body3 (envOfC (Str.ofString "law") lawScope L fa (.ref 488))) Q E s := by
  revert X; k_fill; intro X
  have hMk := kstMark
  have F1 := fr_pins [] F (by intro q hq; cases hq)
  clear F
  dsimp only [kstB] at F1
  conv in (occs := *) lawScope => all_goals whnf
  conv in body3 => whnf
  have hO1 := op_25 w.params
  have hO2 := op_26 w.params
  have hO3 := op_24 w.params
  w_strict (
    w_top off
    k_steps
    all_goals ((rename Fr _ _ _ _ => zF); (rename News _ _ _ _ => zN); refine' hq _ _ _ ?zps _ zF (news_up zN ?zmem); (case zmem => k_mem)))
end Mine
end

-- J
section
open PySem PySem.W PySem.Calls PyProof.Rows
set_option maxRecDepth 100000
set_option maxHeartbeats 8000000
namespace Mine
section
variable {w : World} {L fa lw lc ls r : Addr} {E : Value → Shared → Prop} {s : Shared} {h₀ : Heap} {m mg mb : Str → Option Value} {rest : List (Addr × Obj)} {p : Program} {loose : List Str} {mean : ExcName → Option Value} {Q : Flow → Shared → Prop}
  {wa ca : Array Value} {nw nc : Nat} {t₀ u₀ v₀ : Tok} {body : List Stmt} {env : Env} {x : Str} {stored : List Str}
theorem at_arr {ca : Array Value} {l : List Value} (e : ca = l.toArray) (n : Nat) : W.listOf ca n = W.listOf l.toArray n := by rw [e]

theorem loop1 (henv : env = envOfC (Str.ofString "law") lawScope L fa (.ref 488)) (hb : body = body1)
    (X : (Mine.hd.heap_39 w.params).In h₀) (T : Top p loose mean mg mb h₀) (B : Below callerA h₀ [] h₀) (F : Fr h₀ L s.heap m)
    (N : News h₀ L s.heap ((lw, W.listOf wa nw) :: (lc, W.listOf ca nc) :: rest)) (hca : ca = (clsA.map Value.ref).toArray)
    (hP : PassesOwn (model PySem.Challenge.rw_gr5037_01.row.prog w) (callerA.deeper env) env E)
    (hr : IsRange s.heap r 0 30 1 t₀ u₀ v₀) (mc : m (Str.ofString "classes") = some (.ref lc))
    (done : ∀ (u : Str → Option Value) h tk, Fr h₀ L h (fun y => if y = Str.ofString "i" then u y else if [Str.ofString "cls", Str.ofString "one", Str.ofString "kin", Str.ofString "j"].contains y then u y else m y) →
      News h₀ L h ((lw, W.listOf wa nw) :: (lc, W.listOf ca nc) :: rest) → Q .next { s with heap := h, toks := tk }) :
    wpAny (model PySem.Challenge.rw_gr5037_01.row.prog w) (callerA.deeper env) (pyIter (.ref r)) (fun it s₂ => LoopAtV PySem.Challenge.rw_gr5037_01.row.prog w (callerA.deeper env) h₀ env (Str.ofString "i") body Q E it s₂) E s := by
  subst henv hb hca
  refine range_loop 30 [Str.ofString "cls", Str.ofString "one", Str.ofString "kin", Str.ofString "j"] rfl rfl hr (by decide) rfl F N (fun k t u h tk own k0 k1 hoff F' N' => ?_) done
  have Nx : News h₀ L h ((lc, W.listOf (clsA.map Value.ref).toArray nc) :: ((lw, W.listOf wa nw) :: (lc, W.listOf (clsA.map Value.ref).toArray nc) :: rest ++ own)) := fun q hq => by
    rcases List.mem_cons.mp hq with rfl | hq
    · exact N' _ (.tail _ (.head _))
    · exact N' _ hq
  have fin : ∀ h' tk' m' news', Fr h₀ L h' m' → News h₀ L h' news' → (∀ q ∈ ((lc, W.listOf (clsA.map Value.ref).toArray nc) :: ((lw, W.listOf wa nw) :: (lc, W.listOf (clsA.map Value.ref).toArray nc) :: rest ++ own)), q ∈ news') →
      (∀ z, [Str.ofString "cls", Str.ofString "one", Str.ofString "kin", Str.ofString "j"].contains z = false → m' z = (if z = Str.ofString "i" then some (.int k t) else if [Str.ofString "cls", Str.ofString "one", Str.ofString "kin", Str.ofString "j"].contains z then u z else m z)) →
      InvPostN h₀ L (LoopJ (Str.ofString "i") [Str.ofString "cls", Str.ofString "one", Str.ofString "kin", Str.ofString "j"] m ((lw, W.listOf wa nw) :: (lc, W.listOf (clsA.map Value.ref).toArray nc) :: rest)) own
        (((lw, W.listOf wa nw) :: (lc, W.listOf (clsA.map Value.ref).toArray nc) :: rest).map (·.1)) { s with heap := h, toks := tk } Q .next { s with heap := h', toks := tk' } := by
    intro h' tk' m' news' F₂ N₂ hn hz
    refine turn_end (s₁ := { s with heap := h, toks := tk }) F₂ N₂ (fun q hq => hn q (.tail _ (List.mem_append_left _ hq))) (fun q hq => hn q (.tail _ (List.mem_append_right _ hq))) fun z z1 z2 => ?_
    rw [hz z z2, if_neg z1, if_neg (by rw [z2]; decide)]
  have mc' : (if Str.ofString "classes" = Str.ofString "i" then some (Value.int k t) else if [Str.ofString "cls", Str.ofString "one", Str.ofString "kin", Str.ofString "j"].contains (Str.ofString "classes") then u (Str.ofString "classes") else m (Str.ofString "classes")) = some (.ref lc) := by
    rw [if_neg (by decide), if_neg (by decide)]; exact mc
  by_cases i4 : k ≤ 4
  · exact turn1_first (s := { s with heap := h, toks := tk }) X T B F' Nx hP k0 (by omega) i4 mc' (if_pos rfl) fin
  · exact turn1_op (s := { s with heap := h, toks := tk }) X T B F' Nx hP k0 (by omega) (by omega) mc' (if_pos rfl) fin

theorem loop2 {ns : List Int} {vs : List Value} (hlay : (PyData.list (ns.map PyData.int)).layable0 = true) (hcond : ¬ ((63 : Nat) : Int) < (ns.length : Int))
    (hl : h₀.IsList ls vs.toArray) (hI : IntsAre vs ns)
    (henv : env = envOfC (Str.ofString "law") lawScope L fa (.ref 488)) (hb : body = body2)
    (X : (Mine.hd.heap_39 w.params).In h₀) (T : Top p loose mean mg mb h₀) (B : Below callerA h₀ [] h₀) (F : Fr h₀ L s.heap m)
    (N : News h₀ L s.heap ((lw, W.listOf wa nw) :: (lc, W.listOf ca nc) :: rest)) (hca : ca = (clsA.map Value.ref).toArray) (hwa : WordsAre wa.toList nameL)
    (hr : IsRange s.heap r 0 3 1 t₀ u₀ v₀) (mc : m (Str.ofString "classes") = some (.ref lc)) (mw : m (Str.ofString "words") = some (.ref lw)) (ms : m (Str.ofString "script") = some (.ref ls))
    (done : ∀ (u : Str → Option Value) h tk, Fr h₀ L h (fun y => if y = Str.ofString "k" then u y else if [Str.ofString "drawn", Str.ofString "place", Str.ofString "i", Str.ofString "j", Str.ofString "text", Str.ofString "first", Str.ofString "second", Str.ofString "inside", Str.ofString "told", Str.ofString "handed"].contains y then u y else m y) →
      News h₀ L h ((lw, W.listOf wa nw) :: (lc, W.listOf ca nc) :: rest) → Q .next { s with heap := h, toks := tk }) :
    wpAny (model PySem.Challenge.rw_gr5037_01.row.prog w) (callerA.deeper env) (pyIter (.ref r)) (fun it s₂ => LoopAtV PySem.Challenge.rw_gr5037_01.row.prog w (callerA.deeper env) h₀ env (Str.ofString "k") body Q E it s₂) E s := by
  subst henv hb hca
  generalize hst : [Str.ofString "drawn", Str.ofString "place", Str.ofString "i", Str.ofString "j", Str.ofString "text", Str.ofString "first", Str.ofString "second", Str.ofString "inside", Str.ofString "told", Str.ofString "handed"] = stored at done
  refine range_loop 3 stored rfl rfl hr (by decide) rfl F N (fun k t u h tk own k0 k1 hoff F' N' => ?_) done
  have Nx : News h₀ L h ((lw, W.listOf wa.toList.toArray nw) :: (lc, W.listOf (clsA.map Value.ref).toArray nc) :: ((lw, W.listOf wa nw) :: (lc, W.listOf (clsA.map Value.ref).toArray nc) :: rest ++ own)) := fun q hq => by
    rcases List.mem_cons.mp hq with rfl | hq
    · exact N' _ (.head _)
    · rcases List.mem_cons.mp hq with rfl | hq
      · exact N' _ (.tail _ (.head _))
      · exact N' _ hq
  have look : ∀ z v, stored.contains z = false → z ≠ Str.ofString "k" → m z = some v → (if z = Str.ofString "k" then some (Value.int k t) else if stored.contains z then u z else m z) = some v := fun z v h1 h2 h3 => by
    rw [if_neg h2, if_neg (by rw [h1]; decide)]; exact h3
  refine turn2 (s := { s with heap := h, toks := tk }) hlay hcond hl hI X T B F' Nx hwa k0 (by omega) (look _ _ (by rw [← hst]; decide) (by decide) mc) (look _ _ (by rw [← hst]; decide) (by decide) mw) (if_pos rfl) (look _ _ (by rw [← hst]; decide) (by decide) ms) ?_
  intro h' tk' m' news' F₂ N₂ hn hz
  refine turn_end (s₁ := { s with heap := h, toks := tk }) F₂ N₂ (fun q hq => hn q (.tail _ (.tail _ (List.mem_append_left _ hq)))) (fun q hq => hn q (.tail _ (.tail _ (List.mem_append_right _ hq)))) fun z z1 z2 => ?_
  rw [hz z (by rw [hst]; exact z2), if_neg z1, if_neg (by rw [z2]; decide)]
end
end Mine
end

-- J2
section
open PySem PySem.W PySem.Calls PyProof.Rows
set_option maxRecDepth 100000
set_option maxHeartbeats 8000000
namespace Mine
theorem tail_end {w : World} {L fa lw lc : Addr} {E : Value → Shared → Prop} {s : Shared} {h₀ : Heap} {m mg mb : Str → Option Value} {p : Program} {loose : List Str} {mean : ExcName → Option Value} {Q : Flow → Shared → Prop} {wc ow oc : Obj} {cv : Option Value} {body : List Stmt} {env : Env} {rest : List (Addr × Obj)}
    (henv : env = envOfC (Str.ofString "law") lawScope L fa (.ref 488)) (hb : body = body3)
    (X : (Mine.hd.heap_39 w.params).In h₀) (T : Top p loose mean mg mb h₀) (B : Below callerA h₀ [] h₀) (F : Fr h₀ L s.heap m)
    (N : News h₀ L s.heap ((lw, ow) :: (lc, oc) :: (L + 1, wc) :: (484, tabObj #[]) :: rest)) (hcell : wc.data = Data.cell cv) (codeHd : CodeHd h₀ (488, 484).fst (488, 484).snd) (l0 : @LT.lt Nat _ 484 L)
    (hq : ∀ h' tk' m' ps news', Fr h₀ L h' m' → News h₀ L h' ((484, tabObj ps) :: news') → Q (.ret (.bool true)) { s with heap := h', toks := tk' }) :
    wpAny (model PySem.Challenge.rw_gr5037_01.row.prog w) (callerA.deeper env) (execs body env) Q E s := by
  subst henv hb
  refine tail X T B F (fun q hq => N q ?_) hcell codeHd l0 hq
  rcases List.mem_cons.mp hq with rfl | hq
  · exact .tail _ (.tail _ (.head _))
  · rcases List.mem_cons.mp hq with rfl | hq
    · exact .tail _ (.tail _ (.tail _ (.head _)))
    · cases hq
end Mine
end

-- Main
section
open PySem PySem.W PyProof.Rows
set_option maxRecDepth 100000
set_option maxHeartbeats 8000000
local macro_rules | `(tactic| walk_at "exec For Name Call cons nil") => `(tactic| (k_here; (rename Fr _ _ _ _ => lF'); (with_unfolding_all refine' For_invVF lF' ?k1 ?k2 ?_; (case k1 => exact rfl); (case k2 => exact rfl); k_whole)))
local macro_rules | `(tactic| walk_at "pyIter ref") => `(tactic| (k_here; (rename IsRange _ _ _ _ _ _ _ _ => rgX); k_dflt (refine' Mine.loop2 ?hlay ?hcond ?hl ?hI ?henv ?hb ?X ?T ?B ?F ?N ?hca ?hwa rgX ?mc ?mw ?ms ?_; (case F => k_asm); (case N => k_asm); (case X => k_asm); (case T => k_asm); (case B => k_asm); (case henv => exact rfl); (case hb => exact rfl); (case hca => exact rfl); (case hlay => assumption); (case hcond => assumption); (case hI => assumption); (case hl => assumption); (case hwa => repeat constructor); (case mc => exact rfl); (case mw => exact rfl); (case ms => exact rfl); intro kU kH kTk kFr kNews; (try dsimp only); (try k_fold))))
local macro_rules | `(tactic| walk_at "pyIter ref") => `(tactic| (k_here; (rename IsRange _ _ _ _ _ _ _ _ => rgX); k_dflt (refine' Mine.loop1 ?henv ?hb ?X ?T ?B ?F ?N ?hca ?hP rgX ?mc ?_; (case F => k_asm); (case N => k_asm); (case X => k_asm); (case T => k_asm); (case B => k_asm); (case henv => exact rfl); (case hb => exact rfl); (case hca => exact rfl); (case hP => passes_own); (case mc => exact rfl); intro kU kH kTk kFr kNews; (try dsimp only); (try k_fold))))
local macro_rules | `(tactic| walk_at "execs cons") => `(tactic| (k_here; (with_reducible show wpAny _ _ (execs (Stmt.Assign [Expr.Name (Str.ofString "plain") _] _ _ :: _) _) _ _ _); k_dflt (refine' Mine.tail_end ?henv ?hb ?X ?T ?B ?F ?N ?hcell ?hcode ?l0 ?_; (case F => k_asm); (case N => k_asm); (case X => k_asm); (case T => k_asm); (case B => k_asm); (case henv => exact rfl); (case hb => exact rfl); (case hcell => assumption); (case hcode => assumption); (case l0 => assumption); intro kH kTk kM kPs kN kFr kNews; (try dsimp only))))
theorem PySem.Challenge.cw_gr5037_01_holds : PySem.Challenge.rw_gr5037_01.Holds := by
  refine Mine.hd ?_
  w_strict (
    k_go0
    (all_goals try k_fold)
    k_steps
    (all_goals (try k_data)))
end
