import PyProof.Rows.All
import Wide.All
import OpenK.AllK
import Wide.FinOn
import PySem.Challenge.RW_pg0051_01
open PySem PySem.W PyProof.Rows
set_option Elab.async false
set_option maxRecDepth 100000
set_option maxHeartbeats 8000000
section
open PySem PySem.W PyProof.Rows
namespace Mine
open_top hd for PySem.Challenge.rw_pg0051_01
end Mine
end
section
open PySem PySem.W PyProof.Rows PySem.Calls
namespace Mine
theorem kind_hasattr : builtinKind "hasattr" = none := by decide +kernel
theorem plain_hasattr : plainId "hasattr" = true := by decide +kernel
theorem entry_hasattr : entryFor table "hasattr" = some Builtin.«hasattr» := entryFor_of_tree (by kernel_rfl)
theorem args_hasattr (a b : Value) : argsOk "hasattr" ⟨[a, b], []⟩ := by unfold argsOk; kernel_rfl
theorem entry_ogt : entryFor table "object.__gt__" = some Builtin.«object.__gt__» := entryFor_of_tree (by kernel_rfl)
theorem kind_ogt : builtinKind "object.__gt__" = some .slot := by decide +kernel
theorem split_ogt : splitId "object.__gt__" = some ("object", "__gt__") := by decide +kernel
theorem args_ogt (a b : Value) : argsOk "object.__gt__" ⟨[a, b], []⟩ := by unfold argsOk; kernel_rfl
theorem ogt_eq (a b : Value) : Builtin.«object.__gt__» ⟨[a, b], []⟩ = ret .notImplemented := by rfl
theorem ogt_bind (self : Value) : bindSpecial (.builtin "object.__gt__") self = pure (.builtin "object.__gt__", [self]) :=
  (Slot.of (T := "object") (name := "__gt__") (owner := "object") (n := "__gt__") (by rw [typeLookup_type, builtinLookup_eq_fast]; kernel_rfl) (by decide +kernel) (by decide +kernel) (by decide +kernel)
    (.inl (by decide +kernel)) (by rw [isSubtype_type]; kernel_rfl)).bind self

section
variable {prog : Program} {w : World} {A : Around} {E : Value → Shared → Prop} {s : Shared} {K : Frag} {x C : Addr} {ox : Obj} {od : Option Obj}

theorem ogt_call {b : Value} {Q : Value → Shared → Prop} (X : K.In s.heap) (I : InstAt s.heap x ox C od) (hm : mroIn K C (.type "object") = some true) (h : Q .notImplemented s) :
    wpAny (model prog w) A (call (.builtin "object.__gt__") [.ref x, b]) Q E s := by
  refine wpAny_call (codeAny_call_builtin (by decide +kernel) entry_ogt ?_)
  refine check_slot kind_ogt split_ogt (I.type.andThen (looks_subIn (t := .ref C) X hm)) (args_ogt _ _) ?_
  rw [ogt_eq]
  exact wpAny_pure h
theorem try_gt_none {b : Value} {Q : Option Value → Shared → Prop} (X : K.In s.heap) (I : InstAt s.heap x ox C od) (hm : mroIn K C (.type "object") = some true) (hs : findIn K (.ref C) "__gt__" = some (some (.builtin "object.__gt__"))) (h : Q none s) :
    wpAny (model prog w) A (tryCompare (.ref x) "__gt__" b) Q E s := by
  unfold tryCompare
  simp only [callSpecialIfBound?, bindSpecialIfBound?]
  refine wpAny_bind (wpAny_holding (wpAny_bind (wpAny_bind (wpAny_bind (I.type.here ((looks_findIn X hs).here ?_))))))
  refine wpAny_bind (wpAny_askSetting (wpAny_ite ?_))
  have fin : wpAny (model prog w) A (call (.builtin "object.__gt__") ([.ref x] ++ [b]) >>= fun v => pure (some v)) (fun a s' => wpAny (model prog w) A (match a with | some .notImplemented | none => pure none | some v => pure (some v)) Q E s') E s :=
    wpAny_bind (ogt_call X I hm (wpAny_pure (wpAny_pure h)))
  split
  · exact wpAny_bind (wpAny_of_eq (ogt_bind _) (wpAny_pure (by exact fin)))
  · exact wpAny_tryCatch (wpAny_bind (wpAny_of_eq (ogt_bind _) (wpAny_pure (by exact fin))))

theorem hasattr_int {n : Int} {t u : Tok} {name : Str} {Q : Value → Shared → Prop} (hh : A.handled = none) (hm : typeLookup (.type "int") name = pure none) (hsz : name.length + 100 ≤ sizeLine)
    (h : ∀ h' tk, (∀ b o, s.heap.get? b = some o → h'.get? b = some o) → Q (.bool false) { s with heap := h', toks := tk }) :
    wpAny (model prog w) A (call (.builtin "hasattr") [.int n t, .str name u]) Q E s := by
  refine Calls.call_function_entry kind_hasattr plain_hasattr entry_hasattr (args_hasattr _ _) ?_
  unfold Builtin.«hasattr»
  refine wpAny_bind (wpAny_of_eq (a := [.int n t, .str name u]) (by first | rfl | kernel_rfl) ?_)
  dsimp only
  refine wpAny_bind (wpAny_of_eq (a := ()) (by first | rfl | kernel_rfl) ?_)
  have hT : ∀ s' : Shared, s'.TypeIs (.int n t) "int" := fun _ => rfl
  have f1 := sub_AttributeError
  have f3 := F.slot_int_getattribute.lookup
  have f4 := F.slot_int_getattribute.bind (.int n t)
  have f5 := am_int_getattr_none
  obtain ⟨hp, g, d, tk, os⟩ := s
  unfold getAttrBy? getAttrBy
  repeat (any_goals (first | assumption | ((with_reducible show wpAny _ _ (call (Value.builtin "int.__getattribute__") _ _) _ _ _); refine call_meets F.slot_int_getattribute (hT _) am_entry_int_getattribute (F.args_int_getattribute_2 _ _) (meets_getattribute_miss_int n t name _ hm hsz) ⟨hh, fun h' tk' e hx => ?_⟩) | wp_step))
  obtain ⟨t', u', he⟩ := hx.there
  show wpAny _ _ (getattributeRaised _ _ _ _ _ _ _) _ _ _
  unfold getattributeRaised
  repeat (any_goals (first | assumption | wp_step))
  exact ⟨_, rfl, h _ _ hx.keeps⟩

theorem gab_value {name : Str} {t : Tok} {fill expr : Bool} {v : Value} {Q : Value → Shared → Prop} (X : K.In s.heap) (I : InstAt s.heap x ox C od) (hga : findIn K (.ref C) "__getattribute__" = some (some (.builtin "object.__getattribute__")))
    (hf : findObj K C od name = some (.value v)) (hv : handedIn v = true) (h : Q v s) : wpAny (model prog w) A (getAttrBy (.ref x) (.str name t) fill expr) Q E s := by
  obtain ⟨hh', g, d, tk, os⟩ := s
  have L0 := I.type (M := model prog w)
  have L1 := looks_findIn (M := model prog w) X hga
  have L2 := looks_find (M := model prog w) X I hf
  unfold getAttrBy
  refine wpAny_holding (wpAny_bind (L0.at (wpAny_bind (L1.at ?_))))
  show wpAny _ _ (getAttrEveryday _ _ _) _ _ _
  refine wpAny_bind (wpAny_onRaise (wpAny_runValue (codeAny_builtin F.plainObj_entry_getattr_hooked ?_)))
  refine wpAny_bind (wpAny_pure (wpAny_bind (L0.at (wpAny_bind (L2.at ?_)))))
  refine wpAny_pure ?_
  show wpAny _ _ (handedOut v) _ _ _
  rw [handedOut_of hv]; exact wpAny_pure h

theorem hasattr_inst {u : Tok} {name : Str} {v : Value} {Q : Value → Shared → Prop} (X : K.In s.heap) (I : InstAt s.heap x ox C od) (hga : findIn K (.ref C) "__getattribute__" = some (some (.builtin "object.__getattribute__")))
    (hf : findObj K C od name = some (.value v)) (hv : handedIn v = true) (hmod : mroIn K C (.type "module") = some false) (h : Q (.bool true) s) :
    wpAny (model prog w) A (call (.builtin "hasattr") [.ref x, .str name u]) Q E s := by
  refine Calls.call_function_entry kind_hasattr plain_hasattr entry_hasattr (args_hasattr _ _) ?_
  unfold Builtin.«hasattr»
  refine wpAny_bind (wpAny_of_eq (a := [.ref x, .str name u]) (by first | rfl | kernel_rfl) ?_)
  dsimp only
  refine wpAny_bind (wpAny_of_eq (a := ()) (by first | rfl | kernel_rfl) ?_)
  have L0 := I.type (M := model prog w)
  have L3 := looks_subIn (M := model prog w) (t := .ref C) X hmod
  obtain ⟨hp, g, d, tk, os⟩ := s
  repeat (any_goals (first | with_reducible refine Looks.at (by assumption) ?_ | ((with_reducible show wpAny _ _ (getAttrBy _ _ _ _) _ _ _); refine gab_value X I hga hf hv ?_) | wp_step))
  exact ⟨_, rfl, h⟩
end
end Mine
end
section
open PySem PySem.W PyProof.Rows PySem.Calls
namespace Mine
section
variable {prog : Program} {w : World} {A : Around} {E : Value → Shared → Prop} {s : Shared} {K : Frag} {x C : Addr} {ox : Obj} {od : Option Obj}

theorem lt_int_ref {i : Int} {t : Tok} {Q : Value → Shared → Prop} {cd : ClassData} (hh : A.handled = none) (hu : A.units < cLine) (X : K.In s.heap) (I : InstAt s.heap x ox C od) (hp : ox.data = .plain)
    (hm : mroIn K C (.type "object") = some true) (hs : findIn K (.ref C) "__gt__" = some (some (.builtin "object.__gt__"))) (hsub : subIn K (.ref C) (.type "int") = some false)
    (hc : clsIn K C = some cd) (hn : cd.name.cps.foldl (fun k c => k + (Str.utf8Of c).length) 0 ≤ 50) (hn2 : cd.name.toString.length ≤ 1000)
    (h : ∀ h' tk e, Heap.NewExc s.heap h' e "TypeError" → E (.ref e) { s with heap := h', toks := tk }) :
    wpAny (model prog w) A (compareOp .Lt (.int i t) (.ref x)) Q E s := by
  show wpAny _ _ (richCompare .Lt (.int i t) (.ref x)) Q E s
  have L0 := I.type (M := model prog w)
  have L1 := looks_subIn (M := model prog w) (t := .ref C) X hsub
  have L2 := looks_clsIn (M := model prog w) X hc
  have one : wpAny (model prog w) A (tryCompare (.int i t) (cmpInfo .Lt).2.1 (.ref x)) (fun r s' => r = none ∧ s' = s) E s := by
    refine wpAny_tryCompare_declines (typeIs_int s i t) slot_int_lt ?_
    refine wpAny_call_entry slot_int_lt (typeIs_int s i t) entry_int_lt ?_ (args_int_lt _ _)
    obtain ⟨hp', g, d, tk, os⟩ := s
    have hx := I.at_
    have hcls := I.cls
    unfold Builtin.«int.__lt__»
    repeat (any_goals (first | assumption | with_reducible refine Looks.at (by assumption) ?_ | wp_step))
    rw [hp]
    repeat (any_goals (first | assumption | with_reducible refine Looks.at (by assumption) ?_ | wp_step))
    exact ⟨_, rfl, rfl, rfl, rfl⟩
  simp only [richCompare, (typeIs_int s i t).oneThing_none]
  refine wpAny_holding ?_
  refine wpAny_bind (wpAny_cRoomFor hu ?_)
  refine wpAny_bind (wpAny_typeOf (typeIs_int s i t) (wpAny_bind (L0.here ?_)))
  have hne : (Value.type "int" != Value.ref C) = true := rfl
  simp only [hne, if_true]
  refine wpAny_bind (L1.here ?_)
  simp only [Bool.false_eq_true, if_false, Bool.not_false, if_true]
  refine wpAny_bind (m := tryCompare (.int i t) _ _) (wpAny_mono one (fun r s' hr => ?_) fun _ _ z => z)
  obtain ⟨rfl, rfl⟩ := hr
  refine wpAny_bind (m := tryCompare (.ref x) _ _) (try_gt_none X I hm hs ?_)
  refine wpAny_bind (wpAny_rule (wpAny_bind (wpAny_typeNameOf' (typeIs_int s' i t) (by decide) (wpAny_bind ?_))))
  unfold PySem.typeNameOf shownTypeOf
  refine wpAny_bind (wpAny_bind (L0.here ?_))
  have hb : (Value.ref C == Value.type "builtin_function_or_method") = false := rfl
  simp only [hb, Bool.false_eq_true, if_false]
  refine wpAny_pure ?_
  unfold typeName
  refine wpAny_bind (L2.here ?_)
  rw [if_neg (by omega)]
  refine wpAny_pure ?_
  refine wpAny_raiseTypeError hh h ?_
  show (Str.ofString _).length ≤ sizeLine
  rw [PySem.ofString_length, sizeLine_eq]
  simp only [String.length_append, toString]
  have e1 : "'".length ≤ 100 := by decide
  have e2 : (cmpInfo CmpOp.Lt).1.length ≤ 100 := by decide
  have e3 : "' not supported between instances of '".length ≤ 100 := by decide
  have e4 : "' and '".length ≤ 100 := by decide
  have e5 : (shownName "int").length ≤ 100 := by decide
  omega

/-- own `<` where the right side's class may be the left's subclass (its `__gt__` is object's) -/
theorem lt_ref_ref {y D f : Addr} {oy : Obj} {oe : Option Obj} {r : Bool} {Q : Value → Shared → Prop} (hu : A.units < cLine) (X : K.In s.heap) (I : InstAt s.heap x ox C od) (J : InstAt s.heap y oy D oe)
    (hm : mroIn K D (.type "object") = some true) (hg : findIn K (.ref D) "__gt__" = some (some (.builtin "object.__gt__"))) (hsub : subIn K (.ref D) (.ref C) = some r)
    (hs : findIn K (.ref C) "__lt__" = some (some (.ref f))) (hf : isFn K (.ref f) = true)
    (h : wpAny (model prog w) A (call (.ref f) [.ref x, .ref y]) (W.CmpBack Q) E s) : wpAny (model prog w) A (compareOp .Lt (.ref x) (.ref y)) Q E s := by
  have one : wpAny (model prog w) A (tryCompare (.ref x) (cmpInfo .Lt).2.1 (.ref y)) (fun r s' => ∃ v, r = some v ∧ Q v s') E s := by
    unfold tryCompare
    refine wpAny_bind (ifBound_K X I hs hf (wpAny_mono h (fun v s' hv => ?_) fun _ _ e => e))
    cases v <;> first | exact hv.elim | exact wpAny_pure ⟨_, rfl, hv⟩
  have L1 := looks_subIn (M := model prog w) (t := .ref D) X hsub
  show wpAny _ _ (richCompare .Lt (.ref x) (.ref y)) Q E s
  unfold richCompare
  simp only [oneThing_ref]
  refine wpAny_holding (wpAny_bind (wpAny_cRoomFor hu ?_))
  refine wpAny_bind (I.type.here (wpAny_bind (J.type.here ?_)))
  have fin : wpAny (model prog w) A (tryCompare (.ref x) (cmpInfo .Lt).2.1 (.ref y)) (fun r s' => ∃ v, r = some v ∧ Q v s') E s := one
  split
  · refine wpAny_bind (L1.here ?_)
    cases r with
    | true =>
      simp only [if_true]
      refine wpAny_bind (m := tryCompare (.ref y) _ _) (try_gt_none X J hm hg ?_)
      refine wpAny_bind (wpAny_mono fin (fun r s' z => ?_) fun _ _ e => e)
      obtain ⟨v, rfl, hq⟩ := z
      exact wpAny_pure hq
    | false =>
      simp only [Bool.false_eq_true, if_false]
      refine wpAny_bind (wpAny_mono fin (fun r s' z => ?_) fun _ _ e => e)
      obtain ⟨v, rfl, hq⟩ := z
      exact wpAny_pure hq
  · refine wpAny_bind (wpAny_pure ?_)
    simp only [Bool.false_eq_true, if_false]
    refine wpAny_bind (wpAny_mono fin (fun r s' z => ?_) fun _ _ e => e)
    obtain ⟨v, rfl, hq⟩ := z
    exact wpAny_pure hq

/-- `>` by the right side's own `<` -/
theorem gt_ref_ref {y D f : Addr} {oy : Obj} {oe : Option Obj} {r : Bool} {Q : Value → Shared → Prop} (hu : A.units < cLine) (X : K.In s.heap) (I : InstAt s.heap x ox C od) (J : InstAt s.heap y oy D oe)
    (hm : mroIn K C (.type "object") = some true) (hg : findIn K (.ref C) "__gt__" = some (some (.builtin "object.__gt__"))) (hsub : subIn K (.ref D) (.ref C) = some r)
    (hs : findIn K (.ref D) "__lt__" = some (some (.ref f))) (hf : isFn K (.ref f) = true)
    (h : wpAny (model prog w) A (call (.ref f) [.ref y, .ref x]) (W.CmpBack Q) E s) : wpAny (model prog w) A (compareOp .Gt (.ref x) (.ref y)) Q E s := by
  have one : wpAny (model prog w) A (tryCompare (.ref y) (cmpInfo .Gt).2.2 (.ref x)) (fun r s' => ∃ v, r = some v ∧ Q v s') E s := by
    unfold tryCompare
    refine wpAny_bind (ifBound_K X J hs hf (wpAny_mono h (fun v s' hv => ?_) fun _ _ e => e))
    cases v <;> first | exact hv.elim | exact wpAny_pure ⟨_, rfl, hv⟩
  have L1 := looks_subIn (M := model prog w) (t := .ref D) X hsub
  show wpAny _ _ (richCompare .Gt (.ref x) (.ref y)) Q E s
  unfold richCompare
  simp only [oneThing_ref]
  refine wpAny_holding (wpAny_bind (wpAny_cRoomFor hu ?_))
  refine wpAny_bind (I.type.here (wpAny_bind (J.type.here ?_)))
  have two : wpAny (model prog w) A (tryCompare (.ref x) (cmpInfo .Gt).2.1 (.ref y)) (fun r s' => r = none ∧ s' = s) E s := try_gt_none X I hm hg ⟨rfl, rfl⟩
  split
  · refine wpAny_bind (L1.here ?_)
    cases r with
    | true =>
      simp only [if_true]
      refine wpAny_bind (wpAny_mono one (fun r s' z => ?_) fun _ _ e => e)
      obtain ⟨v, rfl, hq⟩ := z
      exact wpAny_bind (wpAny_rule (wpAny_pure hq))
    | false =>
      simp only [Bool.false_eq_true, if_false, Bool.not_false, if_true]
      refine wpAny_bind (wpAny_mono two (fun r s' z => ?_) fun _ _ e => e)
      obtain ⟨rfl, rfl⟩ := z
      refine wpAny_bind (wpAny_mono one (fun r s' z => ?_) fun _ _ e => e)
      obtain ⟨v, rfl, hq⟩ := z
      exact wpAny_pure hq
  · refine wpAny_bind (wpAny_pure ?_)
    simp only [Bool.false_eq_true, if_false, Bool.not_false, if_true]
    refine wpAny_bind (wpAny_mono two (fun r s' z => ?_) fun _ _ e => e)
    obtain ⟨rfl, rfl⟩ := z
    refine wpAny_bind (wpAny_mono one (fun r s' z => ?_) fun _ _ e => e)
    obtain ⟨v, rfl, hq⟩ := z
    exact wpAny_pure hq
end
end Mine
end
section
open PySem PySem.W PyProof.Rows PySem.Calls
namespace Mine
noncomputable abbrev LO : List Str := looseW hd.view_39 [Str.ofString "BaseHandler", Str.ofString "HTTPErrorProcessor"] ++ List.map (fun x => x.name) (recsOf hd.view_39) ++ List.map (fun x => x.fst) (litsOf hd.view_39) ++ List.map (fun x => x.name) (clssOf hd.view_39 (looseW hd.view_39 [Str.ofString "BaseHandler", Str.ofString "HTTPErrorProcessor"]))

/-- the around of a frame without cells -/
abbrev topO (dp un : Nat) (gd : Option (List Code)) (cn : Str) (cs : Scope) (L a : Addr) (ccd : Value) (outer : List Env) : Around := { handled := none, depth := dp, frames := some (envOf cn cs L a ccd :: outer), guards := gd, units := un }

/-- `v` is `f` handlers, one in the other, with the number `n` inmost -/
def Nest (news : List (Addr × Obj)) : Nat → Value → Int → Prop
  | 0, v, n => ∃ t, v = .int n t
  | f + 1, v, n => ∃ x dx C es c v', v = .ref x ∧ (x, instObj C dx) ∈ news ∧ (dx, dictOf es c) ∈ news ∧ Nest news f v' n ∧
      ((C = 80 ∧ getL "handler_order" es = some (some v')) ∨ (C = 80 ∧ getL "handler_order" es = some none ∧ v' = .int 500 252) ∨ (C = 101 ∧ getL "handler_order" es = some none ∧ v' = .int 1000 297))

theorem Nest.mono {news news' : List (Addr × Obj)} (hs : ∀ p ∈ news, p ∈ news') : ∀ {f : Nat} {v : Value} {n : Int}, Nest news f v n → Nest news' f v n
  | 0, _, _, h => h
  | _ + 1, _, _, ⟨x, dx, C, es, c, v', e, h1, h2, h3, h4⟩ => ⟨x, dx, C, es, c, v', e, hs _ h1, hs _ h2, h3.mono hs, h4⟩

theorem Nest.handed {news : List (Addr × Obj)} : ∀ {f : Nat} {v : Value} {n : Int}, Nest news f v n → handedIn v = true
  | 0, _, _, ⟨_, e⟩ => by subst e; rfl
  | _ + 1, _, _, ⟨_, _, _, _, _, _, e, _⟩ => by subst e; rfl

section
variable {w : World}
theorem f_fill : PySem.Challenge.rw_pg0051_01 = PySem.Challenge.rw_pg0051_01 → hasDictIn (hd.heap_39 w.params) 80 = true := by k_fill; intro _; k_is
theorem f_dict0 : hasDictIn (hd.heap_39 w.params) 80 = true := by k_is
theorem f_dict1 : hasDictIn (hd.heap_39 w.params) 101 = true := by k_is
theorem f_ho0 : findIn (hd.heap_39 w.params) (.ref 80) "handler_order" = some (some (.int 500 252)) := by k_is
theorem f_ho1 : findIn (hd.heap_39 w.params) (.ref 101) "handler_order" = some (some (.int 1000 297)) := by k_is
theorem f_noGet0 : noGet (hd.heap_39 w.params) (some (.int 500 252)) = true := by k_is
theorem f_spec0 : specialIn (hd.heap_39 w.params) (.int 500 252) "__get__" = some none := by k_is
theorem f_spec1 : specialIn (hd.heap_39 w.params) (.int 1000 297) "__get__" = some none := by k_is
theorem f_copied : copiedNames.contains "handler_order" = false := by decide +kernel
theorem f_ga0 : findIn (hd.heap_39 w.params) (.ref 80) "__getattribute__" = some (some (.builtin "object.__getattribute__")) := by k_is
theorem f_ga1 : findIn (hd.heap_39 w.params) (.ref 101) "__getattribute__" = some (some (.builtin "object.__getattribute__")) := by k_is
theorem f_obj0 : mroIn (hd.heap_39 w.params) 80 (.type "object") = some true := by k_is
theorem f_obj1 : mroIn (hd.heap_39 w.params) 101 (.type "object") = some true := by k_is
theorem f_mod0 : mroIn (hd.heap_39 w.params) 80 (.type "module") = some false := by k_is
theorem f_mod1 : mroIn (hd.heap_39 w.params) 101 (.type "module") = some false := by k_is
theorem f_gt0 : findIn (hd.heap_39 w.params) (.ref 80) "__gt__" = some (some (.builtin "object.__gt__")) := by k_is
theorem f_gt1 : findIn (hd.heap_39 w.params) (.ref 101) "__gt__" = some (some (.builtin "object.__gt__")) := by k_is
theorem f_lt0 : findIn (hd.heap_39 w.params) (.ref 80) "__lt__" = some (some (.ref 77)) := by k_is
theorem f_lt1 : findIn (hd.heap_39 w.params) (.ref 101) "__lt__" = some (some (.ref 77)) := by k_is
theorem f_fn : isFn (hd.heap_39 w.params) (.ref 77) = true := by k_is
theorem f_sub00 : subIn (hd.heap_39 w.params) (.ref 80) (.ref 80) = some true := by k_is
theorem f_sub01 : subIn (hd.heap_39 w.params) (.ref 80) (.ref 101) = some false := by k_is
theorem f_sub10 : subIn (hd.heap_39 w.params) (.ref 101) (.ref 80) = some true := by k_is
theorem f_sub11 : subIn (hd.heap_39 w.params) (.ref 101) (.ref 101) = some true := by k_is
theorem f_int0 : subIn (hd.heap_39 w.params) (.ref 80) (.type "int") = some false := by k_is
theorem f_int1 : subIn (hd.heap_39 w.params) (.ref 101) (.type "int") = some false := by k_is
theorem f_nf0 : notFirst (hd.heap_39 w.params) 80 (.type "int") = true := by k_is
theorem f_nf1 : notFirst (hd.heap_39 w.params) 101 (.type "int") = true := by k_is
theorem f_cls0 : ∃ cd, clsIn (hd.heap_39 w.params) 80 = some cd ∧ cd.name.cps.foldl (fun k c => k + (Str.utf8Of c).length) 0 ≤ 50 ∧ cd.name.toString.length ≤ 1000 := by
  refine ⟨_, by k_is, ?_, ?_⟩
  · decide +kernel
  · decide +kernel
theorem f_cls1 : ∃ cd, clsIn (hd.heap_39 w.params) 101 = some cd ∧ cd.name.cps.foldl (fun k c => k + (Str.utf8Of c).length) 0 ≤ 50 ∧ cd.name.toString.length ≤ 1000 := by
  refine ⟨_, by k_is, ?_, ?_⟩
  · decide +kernel
  · decide +kernel
theorem f_miss : typeLookup (.type "int") "handler_order" = pure none := by rw [typeLookup_type, builtinLookup_eq_fast]; kernel_rfl

theorem Nest.find {h₀ h : Heap} {L : Addr} {news : List (Addr × Obj)} {f : Nat} {v : Value} {n : Int} (N : News h₀ L h news) (hn : Nest news (f + 1) v n) :
    ∃ x ox C od v', v = .ref x ∧ W.InstAt h x ox C (some od) ∧ ox.data = .plain ∧ (C = 80 ∨ C = 101) ∧ Nest news f v' n ∧ findObj (hd.heap_39 w.params) C (some od) "handler_order" = some (.value v') := by
  obtain ⟨x, dx, C, es, c, v', e, h1, h2, h3, h4⟩ := hn
  refine ⟨x, _, C, _, v', e, W.InstAt.of_news N h1 h2, rfl, ?_, h3, ?_⟩
  · rcases h4 with h | h | h
    · exact .inl h.1
    · exact .inl h.1
    · exact .inr h.1
  · have hh := h3.handed
    rcases h4 with ⟨rfl, h⟩ | ⟨rfl, h, rfl⟩ | ⟨rfl, h, rfl⟩
    · exact findObj_own f_dict0 f_ho0 f_noGet0 (by rw [lookIn_dict, h])
    · exact findObj_cls f_dict0 f_ho0 f_spec0 hh f_copied (by rw [lookIn_dict, h])
    · exact findObj_cls f_dict1 f_ho1 f_spec1 hh f_copied (by rw [lookIn_dict, h])
end
end Mine
end
section
open PySem PySem.W PyProof.Rows PySem.Calls
namespace Mine
/-- an exception of this class arrives at the frame L (whose ground is h₀): raised here, or let through by a callee -/
def Arrives (base h₀ : Heap) (outer : List Env) (cn : Str) (cs : Scope) (L a : Addr) (ccd : Value) (m : Str → Option Value) (news : List (Addr × Obj)) (cls : String) (e : Addr) (h' : Heap) : Prop :=
  (∃ h, Fr h₀ L h m ∧ News h₀ L h news ∧ Heap.NewExc h h' e cls) ∨ ∃ G, Fr h₀ L G m ∧ RaisedSN base G (envOf cn cs L a ccd :: outer) e (.type cls) news h' ∧ G.UpToSlots h'

theorem leave_arrives {M : Model} {A : Around} {E : Value → Shared → Prop} {s' : Shared} {base g : Heap} {outer : List Env} {L a e : Addr} {m : Str → Option Value} {name : Str} {scope : Scope} {cd : Value} {Q : Unit → Shared → Prop} {news : List (Addr × Obj)} {cls : String}
    (K : Below A base outer g) (hx : Arrives base g outer name scope L a cd m news cls e s'.heap) (hQ : ∀ h', RaisedSN base g outer e (.type cls) news h' → g.UpToSlots h' → Q () { s' with heap := h' }) (hk : scope.kind = .function) :
    wpAny M (A.deeper (envOf name scope L a cd)) (leaving (envOf name scope L a cd) (.ref e)) Q E s' := by
  rcases hx with ⟨h, F, N, hx⟩ | ⟨G, F, R, U⟩
  · exact leave_newS K hx F N (fun h' r _ u => hQ h' r u) hk
  · exact leave_onSN K F R U fun h' r _ u => hQ h' r u

def LtOk (w : World) (mean : ExcName → Option Value) (mg mb : Str → Option Value) (f : Nat) : Prop :=
  ∀ (dp un : Nat) (gd : Option (List Code)) (cn : Str) (cs : Scope) (a : Addr) (ccd : Value) (outer : List Env) (A₀ : Around) (base h₀ : Heap) (L : Addr) (m : Str → Option Value) (news : List (Addr × Obj)) (s : Shared) (v u : Value) (g : Nat) (n k : Int)
    (Q E : Value → Shared → Prop),
    Below A₀ base outer h₀ → Fr h₀ L s.heap m → (hd.heap_39 w.params).In h₀ → News h₀ L s.heap news → Top topProg LO mean mg mb h₀ → cs.kind = .function → Nest news f v n → Nest news g u k →
    dp + f + 5 < recursionLimit → un + 8 * f + 50 < cLine →
    (f < g → ∀ h' tk e, Arrives base h₀ outer cn cs L a ccd m news "TypeError" e h' → E (.ref e) { s with heap := h', toks := tk }) →
    (¬ f < g → ∀ h' tk, Fr h₀ L h' m → News h₀ L h' news → Q (.bool (decide (g < f ∨ n < k))) { s with heap := h', toks := tk }) →
    wpAny (model PySem.Challenge.rw_pg0051_01.row.prog w) (topO dp un gd cn cs L a ccd outer) (compareOp .Lt v u) Q E s

variable {w : World} {mean : ExcName → Option Value} {mg mb : Str → Option Value}

theorem lt_zero : LtOk w mean mg mb 0 := by
  intro dp un gd cn cs a ccd outer A₀ base h₀ L m news s v u g n k Q E B F X N T hk hv hu hdp hun exc ret
  obtain ⟨t, rfl⟩ := hv
  cases g with
  | zero =>
    obtain ⟨t', rfl⟩ := hu
    refine lt_int ?_
    have := ret (by omega) s.heap s.toks F N
    simpa using this
  | succ g =>
    obtain ⟨x, ox, C, od, v', rfl, I, hp, hC, hN', hf⟩ := Nest.find (w := w) N hu
    rcases hC with rfl | rfl
    · obtain ⟨cd, h1, h2, h3⟩ := f_cls0 (w := w)
      exact lt_int_ref rfl (by show un < cLine; omega) (X.keeps F.keep) I hp f_obj0 f_gt0 f_int0 h1 h2 h3 fun h' tk e hx => exc (by omega) h' tk e (.inl ⟨_, F, N, hx⟩)
    · obtain ⟨cd, h1, h2, h3⟩ := f_cls1 (w := w)
      exact lt_int_ref rfl (by show un < cLine; omega) (X.keeps F.keep) I hp f_obj1 f_gt1 f_int1 h1 h2 h3 fun h' tk e hx => exc (by omega) h' tk e (.inl ⟨_, F, N, hx⟩)

theorem call77 {f g : Nat} (ih : LtOk w mean mg mb f) {dp un : Nat} {gd : Option (List Code)} {cn : Str} {cs : Scope} {a : Addr} {ccd : Value} {outer : List Env} {A₀ : Around} {base h₀ : Heap} {L : Addr} {m : Str → Option Value} {news : List (Addr × Obj)} {s : Shared} {v u : Value} {n k : Int}
    {Q E : Value → Shared → Prop}
    (B : Below A₀ base outer h₀) (F : Fr h₀ L s.heap m) (X : (hd.heap_39 w.params).In h₀) (N : News h₀ L s.heap news) (T : Top topProg LO mean mg mb h₀) (hk : cs.kind = .function) (hv : Nest news (f + 1) v n) (hu : Nest news (g + 1) u k)
    (hdp : dp + (f + 1) + 5 < recursionLimit) (hun : un + 8 * (f + 1) + 50 < cLine)
    (exc : f < g → ∀ h' tk e, Arrives base h₀ outer cn cs L a ccd m news "TypeError" e h' → E (.ref e) { s with heap := h', toks := tk })
    (ret : ¬ f < g → ∀ h' tk, Fr h₀ L h' m → News h₀ L h' news → Q (.bool (decide (g < f ∨ n < k))) { s with heap := h', toks := tk }) :
    wpAny (model PySem.Challenge.rw_pg0051_01.row.prog w) (topO dp un gd cn cs L a ccd outer) (call (.ref 77) [v, u]) (W.CmpBack Q) E s := by
  have hv0 := hv
  have hu0 := hu
  obtain ⟨x, ox, C, od, v', rfl, I, hp, hC, hN', hf⟩ := Nest.find (w := w) N hv
  obtain ⟨y, oy, D, od', u', rfl, J, hp', hD, hNu', hf'⟩ := Nest.find (w := w) N hu
  clear I J
  w_top off; revert X; k_fill; intro X
  refine wpAny_call ?_
  k_dflt ktr_enter
  k_steps
  rename Fr _ _ _ _ => F1
  rename News _ _ _ _ => N1
  rename (hd.heap_39 w.params).In _ => X1
  obtain ⟨y1, oy1, D1, od1, u1, e1, J1, -, hD1, hNu1, hf1⟩ := Nest.find (w := w) N1 hu0
  cases e1
  obtain ⟨x1, ox1, C1, oc1, v1, e1, I1, -, hC1, hNv1, hf2⟩ := Nest.find (w := w) N1 hv0
  cases e1
  refine hasattr_inst (X1.keeps F1.keep) J1 (by rcases hD1 with rfl | rfl; exact f_ga0; exact f_ga1) hf1 hNu1.handed (by rcases hD1 with rfl | rfl; exact f_mod0; exact f_mod1) ?_
  k_steps
  refine get_value (X1.keeps F1.keep) I1 (by rcases hC1 with rfl | rfl; exact f_ga0; exact f_ga1) hf2 hNv1.handed ?_
  k_steps
  refine get_value (X1.keeps F1.keep) J1 (by rcases hD1 with rfl | rfl; exact f_ga0; exact f_ga1) hf1 hNu1.handed ?_
  k_steps
  rename Below _ _ _ _ => B1
  rename Top _ _ _ _ _ _ => T1
  refine ih _ _ _ _ _ _ _ _ _ _ _ _ _ _ _ _ _ _ _ _ _ _ B1 F1 X1 N1 T1 rfl hNv1 hNu1 ?_ ?_ ?_ ?_
  · show dp + 1 + f + 5 < recursionLimit
    omega
  · show un + 3 + 8 * f + 50 < cLine
    omega
  · intro hlt h2 tk2 e hx
    k_unfold
    dsimp only
    refine leave_arrives B1 hx ?_ rfl
    intro h3 R3 U3
    exact exc hlt h3 tk2 e (.inr ⟨_, by assumption, R3, U3⟩)
  · intro hlt h2 tk2 F2 N2
    clear F1 N1
    k_steps
    rename Fr _ _ _ _ => F3
    rename News _ _ _ _ => N3
    exact ret hlt _ tk2 F3 N3

theorem lt_succ {f : Nat} (ih : LtOk w mean mg mb f) : LtOk w mean mg mb (f + 1) := by
  intro dp un gd cn cs a ccd outer A₀ base h₀ L m news s v u g n k Q E B F X N T hk hv hu hdp hun exc ret
  have hv0 := hv
  have hu0 := hu
  obtain ⟨x, ox, C, od, v', rfl, I, hp, hC, hN', hf⟩ := Nest.find (w := w) N hv
  have hX := X.keeps F.keep
  have hcl : un < cLine := by omega
  cases g with
  | zero =>
    obtain ⟨t', rfl⟩ := hu
    have body : wpAny (model PySem.Challenge.rw_pg0051_01.row.prog w) (topO dp un gd cn cs L a ccd outer) (call (.ref 77) [.ref x, .int k t']) (W.CmpBack Q) E s := by
      w_top off; revert X; k_fill; intro X
      refine wpAny_call ?_
      k_dflt ktr_enter
      k_steps
      refine hasattr_int rfl f_miss (by decide +kernel) ?_
      intro h2 tk2 hk2
      rename Fr _ _ _ _ => F1
      rename News _ _ _ _ => N1
      have F2 := Fr.kept F1 hk2
      have N2 := News.grown N1 hk2
      clear F1 N1
      k_steps
      rename Fr _ _ _ _ => F3
      rename News _ _ _ _ => N3
      have := ret (by omega) _ tk2 F3 N3
      simpa using this
    rcases hC with rfl | rfl
    · exact cmp_K (op := .Lt) hcl F X I (Looks.of_pure rfl) f_nf0 f_lt0 f_fn body
    · exact cmp_K (op := .Lt) hcl F X I (Looks.of_pure rfl) f_nf1 f_lt1 f_fn body
  | succ g =>
    have body := call77 (g := g) (Q := Q) (E := E) (gd := gd) (cn := cn) (a := a) (ccd := ccd) ih B F X N T hk hv0 hu0 hdp hun (fun h => exc (by omega)) (fun h h' tk F' N' => by
      have := ret (by omega) h' tk F' N'
      have e : decide (g + 1 < f + 1 ∨ n < k) = decide (g < f ∨ n < k) := by congr 1; simp
      rw [e] at this
      exact this)
    obtain ⟨y, oy, D, od', u', rfl, J, hp', hD, hNu', hf'⟩ := Nest.find (w := w) N hu
    rcases hC with rfl | rfl <;> rcases hD with rfl | rfl
    · exact lt_ref_ref hcl hX I J f_obj0 f_gt0 f_sub00 f_lt0 f_fn body
    · exact lt_ref_ref hcl hX I J f_obj1 f_gt1 f_sub10 f_lt0 f_fn body
    · exact lt_ref_ref hcl hX I J f_obj0 f_gt0 f_sub01 f_lt1 f_fn body
    · exact lt_ref_ref hcl hX I J f_obj1 f_gt1 f_sub11 f_lt1 f_fn body

theorem lt_all : ∀ f, LtOk w mean mg mb f
  | 0 => lt_zero
  | f + 1 => lt_succ (lt_all f)

theorem gt_all {f : Nat} {dp un : Nat} {gd : Option (List Code)} {cn : Str} {cs : Scope} {a : Addr} {ccd : Value} {outer : List Env} {A₀ : Around} {base h₀ : Heap} {L : Addr} {m : Str → Option Value} {news : List (Addr × Obj)} {s : Shared} {v u : Value} {n k : Int}
    {Q E : Value → Shared → Prop}
    (B : Below A₀ base outer h₀) (F : Fr h₀ L s.heap m) (X : (hd.heap_39 w.params).In h₀) (N : News h₀ L s.heap news) (T : Top topProg LO mean mg mb h₀) (hk : cs.kind = .function) (hv : Nest news f v n) (hu : Nest news f u k)
    (hdp : dp + f + 5 < recursionLimit) (hun : un + 8 * f + 50 < cLine)
    (ret : ∀ h' tk, Fr h₀ L h' m → News h₀ L h' news → Q (.bool (decide (k < n))) { s with heap := h', toks := tk }) :
    wpAny (model PySem.Challenge.rw_pg0051_01.row.prog w) (topO dp un gd cn cs L a ccd outer) (compareOp .Gt v u) Q E s := by
  cases f with
  | zero =>
    obtain ⟨t, rfl⟩ := hv
    obtain ⟨t', rfl⟩ := hu
    refine gt_int ?_
    exact ret s.heap s.toks F N
  | succ f =>
    have hcl : un < cLine := by omega
    have body := call77 (g := f) (Q := Q) (E := E) (gd := gd) (cn := cn) (a := a) (ccd := ccd) (lt_all f) B F X N T hk hu hv hdp hun (fun h => absurd h (by omega)) (fun h h' tk F' N' => by
      have e : decide (f < f ∨ k < n) = decide (k < n) := by congr 1; simp
      rw [e]
      exact ret h' tk F' N')
    obtain ⟨x, ox, C, od, v', rfl, I, hp, hC, hN', hf⟩ := Nest.find (w := w) N hv
    obtain ⟨y, oy, D, od', u', rfl, J, hp', hD, hNu', hf'⟩ := Nest.find (w := w) N hu
    have hX := X.keeps F.keep
    rcases hC with rfl | rfl <;> rcases hD with rfl | rfl
    · exact gt_ref_ref hcl hX I J f_obj0 f_gt0 f_sub00 f_lt0 f_fn body
    · exact gt_ref_ref hcl hX I J f_obj0 f_gt0 f_sub10 f_lt1 f_fn body
    · exact gt_ref_ref hcl hX I J f_obj1 f_gt1 f_sub01 f_lt0 f_fn body
    · exact gt_ref_ref hcl hX I J f_obj1 f_gt1 f_sub11 f_lt1 f_fn body
end Mine
end
section
open PySem PySem.W PyProof.Rows PySem.Calls
namespace Mine
inductive All2 {α β : Type} (R : α → β → Prop) : List α → List β → Prop
  | nil : All2 R [] []
  | cons {a : α} {b : β} {as : List α} {bs : List β} : R a b → All2 R as bs → All2 R (a :: as) (b :: bs)
theorem All2.mono {α β : Type} {R S : α → β → Prop} (h : ∀ a b, R a b → S a b) : ∀ {as : List α} {bs : List β}, All2 R as bs → All2 S as bs
  | _, _, .nil => .nil
  | _, _, .cons x y => .cons (h _ _ x) (y.mono h)
theorem All2.length {α β : Type} {R : α → β → Prop} : ∀ {as : List α} {bs : List β}, All2 R as bs → as.length = bs.length
  | _, _, .nil => rfl
  | _, _, .cons _ y => by simp [y.length]
theorem All2.get {α β : Type} {R : α → β → Prop} : ∀ {as : List α} {bs : List β} (_ : All2 R as bs) {i : Nat} {b : β}, bs[i]? = some b → ∃ a, as[i]? = some a ∧ R a b
  | _, _, .nil, i, b, h => by simp at h
  | _, _, .cons x y, 0, b, h => by
    rw [List.getElem?_cons_zero] at h
    cases h
    exact ⟨_, by simp, x⟩
  | _, _, .cons x y, i + 1, b, h => by
    obtain ⟨a, ha, hr⟩ := y.get (i := i) (b := b) (by simpa using h)
    exact ⟨a, by simpa using ha, hr⟩

abbrev Row := List (Nat × Int)
def cellAt (r : Row) (p : Int) : Nat × Int := r.getD p.toNat (0, 0)
/-- what the law means by comparing two rows: none is a refusal -/
def meant : List (Int × Int) → Row → Row → Option Int
  | [], _, _ => some 0
  | (p, d) :: ks, l, r =>
    if (cellAt l p).1 < (cellAt r p).1 then none
    else if (cellAt r p).1 < (cellAt l p).1 ∨ (cellAt l p).2 < (cellAt r p).2 then some (-d)
    else if (cellAt r p).2 < (cellAt l p).2 then some d
    else meant ks l r

abbrev tupO (vs : List Value) (n : Nat) : Obj := { cls := .type "tuple", data := .seq vs.toArray n }
def KeyIs (news : List (Addr × Obj)) (v : Value) (k : Int × Int) : Prop := ∃ T n t t', v = .ref T ∧ (T, tupO [.int k.1 t, .int k.2 t'] n) ∈ news
def CompIs (news : List (Addr × Obj)) (v : Value) (ks : List (Int × Int)) : Prop :=
  ∃ c dc es n lk vs k, v = .ref c ∧ (c, instObj 45 dc) ∈ news ∧ (dc, dictOf es n) ∈ news ∧ (getL "comp_select_list" es = some (some (.ref lk)) ∧ getL "compare" es = some none) ∧ (lk, listOf vs.toArray k) ∈ news ∧ All2 (KeyIs news) vs ks
def RowIs (news : List (Addr × Obj)) (v : Value) (r : Row) : Prop :=
  ∃ a n vs, v = .ref a ∧ (a, tupO vs n) ∈ news ∧ All2 (fun v c => Nest news c.1 v c.2) vs r
/-- hidden, so that the walk does not split by it -/
def KeysOk (ks : List (Int × Int)) : Prop := ∀ k ∈ ks, 0 ≤ k.1 ∧ k.1 < 3
def RowOk (r : Row) : Prop := r.length = 3 ∧ ∀ c ∈ r, c.1 ≤ 2

theorem KeyIs.mono {news news' : List (Addr × Obj)} (hs : ∀ p ∈ news, p ∈ news') {v : Value} {k : Int × Int} : KeyIs news v k → KeyIs news' v k
  | ⟨T, n, t, t', e, h⟩ => ⟨T, n, t, t', e, hs _ h⟩
theorem CompIs.mono {news news' : List (Addr × Obj)} (hs : ∀ p ∈ news, p ∈ news') {v : Value} {ks : List (Int × Int)} : CompIs news v ks → CompIs news' v ks
  | ⟨c, dc, es, n, lk, vs, k, e, h1, h2, h3, h4, h5⟩ => ⟨c, dc, es, n, lk, vs, k, e, hs _ h1, hs _ h2, h3, hs _ h4, h5.mono fun _ _ => KeyIs.mono hs⟩
theorem RowIs.mono {news news' : List (Addr × Obj)} (hs : ∀ p ∈ news, p ∈ news') {v : Value} {r : Row} : RowIs news v r → RowIs news' v r
  | ⟨a, n, vs, e, h1, h2⟩ => ⟨a, n, vs, e, hs _ h1, h2.mono fun _ _ => Nest.mono hs⟩

theorem cell_get {r : Row} {p : Int} (h : RowOk r) (h0 : 0 ≤ p) (h3 : p < 3) : r[p.toNat]? = some (cellAt r p) ∧ (cellAt r p).1 ≤ 2 := by
  have hlt : p.toNat < r.length := by have := h.1; omega
  have e : r[p.toNat]? = some (cellAt r p) := by simp [cellAt, List.getElem?_eq_getElem hlt]
  exact ⟨e, h.2 _ (List.mem_of_getElem? e)⟩

variable {w : World} {mean : ExcName → Option Value} {mg mb : Str → Option Value}
theorem f_dictC : hasDictIn (hd.heap_39 w.params) 45 = true := by
  refine (?_ : PySem.Challenge.rw_pg0051_01 = PySem.Challenge.rw_pg0051_01 → _) rfl; k_fill; intro _; k_is
theorem f_gaC : findIn (hd.heap_39 w.params) (.ref 45) "__getattribute__" = some (some (.builtin "object.__getattribute__")) := by k_is
theorem f_csC : findIn (hd.heap_39 w.params) (.ref 45) "comp_select_list" = some none := by k_is
theorem f_ngC : noGet (hd.heap_39 w.params) none = true := by k_is

theorem item_row {prog : Program} {A : Around} {E : Value → Shared → Prop} {s : Shared} {h₀ : Heap} {L : Addr} {news : List (Addr × Obj)} {value slice : PySem.Expr} {v : Value} {r : Row} {k : Int} {u : Tok} {Q : Value → Shared → Prop} (N : News h₀ L s.heap news) (hr : RowIs news v r) (ho : RowOk r) (h0 : 0 ≤ k) (h3 : k < 3)
    (h : ∀ x, Nest news (cellAt r k).1 x (cellAt r k).2 → Q x s)
    (hs : ∀ t, subscripted slice false (.ref t) (.int k u) = operate [.ref t, .int k u] (getItem (.ref t) (.int k u)) := by intro t; with_unfolding_all rfl) :
    wpAny (model prog w) A (subscriptTail value slice v (.int k u)) Q E s := by
  obtain ⟨a, n, vs, rfl, hm, hv⟩ := hr
  obtain ⟨hg, _⟩ := cell_get ho h0 h3
  obtain ⟨x, hx, hn⟩ := hv.get hg
  refine item_tupleT (l := vs) (j := k.toNat) ⟨_, (N _ hm).1, rfl, n, rfl⟩ (by omega) (by omega) ?_ hx (h x hn) (hs a)
  have := hv.length
  have := ho.1
  unfold seqIndex?
  have e1 : (if k < 0 then k + (vs.length : Int) else k) = k := if_neg (by omega)
  simp only [e1, Bool.and_eq_true, decide_eq_true_eq]
  rw [if_pos (by omega)]

theorem raised_sub {base G : Heap} {l : List Env} {e : Addr} {cls : Value} {news news' : List (Addr × Obj)} {h : Heap} (hs : ∀ p ∈ news', p ∈ news) (R : RaisedSN base G l e cls news h) : RaisedSN base G l e cls news' h := by
  obtain ⟨B, a0, hB, hBG, hl, hfl⟩ := R
  exact ⟨B, a0, hB, hBG, fun q hq => hl q (hs q hq), hfl⟩
theorem itemsRest_gen {prog : Program} {A : Around} {E : Value → Shared → Prop} {s : Shared} {env : Env} {h₀ : Heap} {target : PySem.Expr} {body : List Stmt} {Q : Flow → Shared → Prop} {ws : List (Addr × String)} {keep news : List (Addr × Obj)} {xs : List Itm} {m₀ : Str → Option Value}
    (P : (Str → Option Value) → Prop) (h0 : P m₀) (h : ∀ m1, P m1 → ItemsRest prog w A E h₀ env target body Q s ws keep xs m1 news) : ItemsRest prog w A E h₀ env target body Q s ws keep xs m₀ news := h m₀ h0
theorem map_two {m : Str → Option Value} {a b : Str} {va vb : Value} (ha : m a = some va) (hb : m b = some vb) : m = fun y => if y = a then some va else if y = b then some vb else m y := by
  funext y
  by_cases h1 : y = a
  · simp [h1, ha]
  · by_cases h2 : y = b
    · subst h2; simp [h1, hb]
    · simp [h1, h2]

theorem compare_ctr {dp un : Nat} {gd : Option (List Code)} {cn : Str} {cs : Scope} {a : Addr} {ccd : Value} {outer : List Env} {A₀ : Around} {base h₀ : Heap} {L : Addr} {m : Str → Option Value} {news : List (Addr × Obj)} {s : Shared} {comp l r : Value} {ks : List (Int × Int)} {rl rr : Row}
    {Q E : Value → Shared → Prop}
    (B : Below A₀ base outer h₀) (F : Fr h₀ L s.heap m) (X : (hd.heap_39 w.params).In h₀) (N : News h₀ L s.heap news) (T : Top topProg LO mean mg mb h₀) (hk : cs.kind = .function)
    (hc : CompIs news comp ks) (hl : RowIs news l rl) (hr : RowIs news r rr) (hko : KeysOk ks) (hlo : RowOk rl) (hro : RowOk rr)
    (hdp : dp + 20 < recursionLimit) (hun : un + 100 < cLine)
    (exc : meant ks rl rr = none → ∀ G h' tk e, Fr h₀ L G m → RaisedSN base G (envOf cn cs L a ccd :: outer) e (.type "TypeError") news h' → G.UpToSlots h' → E (.ref e) { s with heap := h', toks := tk })
    (ret : ∀ i, meant ks rl rr = some i → ∀ h' tk t, Fr h₀ L h' m → News h₀ L h' news → Q (.int i t) { s with heap := h', toks := tk }) :
    wpAny (model PySem.Challenge.rw_pg0051_01.row.prog w) (topO dp un gd cn cs L a ccd outer) (call (.ref 42) [comp, l, r]) Q E s := by
  w_top off; revert X; k_fill; intro X
  obtain ⟨c, dc, es, n, lk, vs, k, rfl, hc1, hc2, hc3, hc4, hc5⟩ := hc
  refine wpAny_call ?_
  k_dflt ktr_enter
  refine wpAny_execs_cons ?_
  rename Fr _ _ _ _ => F1
  rename News _ _ _ _ => N1
  rename (hd.heap_39 w.params).In _ => X1
  with_unfolding_all refine For_turns F1 ?_
  k_steps
  refine get_value (X1.keeps F1.keep) (W.InstAt.of_news N1 hc1 hc2) f_gaC (findObj_own f_dictC f_csC f_ngC (by rw [lookIn_dict, hc3.1])) rfl ?_
  refine iter_listTurns rfl F1 N1 hc4 rfl rfl ?_
  intro I hI
  have hsub : SubL [(lk, listOf vs.toArray k)] news := ⟨hc4, trivial⟩
  clear F1 N1
  generalize [(lk, listOf vs.toArray k)] = keep at hsub ⊢
  clear hc4 hc3 hc2 hc1
  refine itemsRest_gen (fun m1 => m1 "left" = some l ∧ m1 "right" = some r) ⟨rfl, rfl⟩ ?_
  rename Below _ _ _ _ => B1
  rename Top _ _ _ _ _ _ => T1
  induction hc5 with
  | nil =>
    rintro m1 ⟨hm1, hm2⟩
    refine ItemsRest.zero ?_
    intro h2 tk2 F2 N2
    dsimp only
    k_steps
    rename Fr _ _ _ _ => F3
    rename News _ _ _ _ => N3
    exact ret 0 rfl _ _ _ F3 N3
  | @cons kv k0 vs' ks' hkey hrest ih =>
    rintro m1 ⟨hm1, hm2⟩
    rw [List.map_cons]
    refine ItemsRest.val ?_
    intro h2 tk2 F2
    refine AllObj.cons ?_
    intro oi hoi
    refine AllObj.nil ?_
    intro N2
    obtain ⟨T', n', t1, t2, rfl, hT⟩ := hkey
    obtain ⟨p, d⟩ := k0
    dsimp only at hT F2 N2 ⊢
    simp only [List.cons_append, List.nil_append] at N2
    rw [map_two hm1 hm2] at F2
    refine unpackN_ F2 N2 (News.isTup N2 (.tail _ hT)) rfl rfl rfl ?_
    intro h3 F3 N3
    clear F2 N2
    obtain ⟨hp0, hp3⟩ := hko (p, d) (.head _)
    have hl2 : RowIs ((I, oi) :: news) l rl := hl.mono fun _ h => .tail _ h
    have hr2 : RowIs ((I, oi) :: news) r rr := hr.mono fun _ h => .tail _ h
    k_steps
    rename News _ _ _ _ => N4
    refine item_row N4 hl2 hlo hp0 hp3 ?_
    intro x hx
    k_steps
    rename News _ _ _ _ => N4
    refine item_row N4 hr2 hro hp0 hp3 ?_
    intro y hy
    k_steps
    rename Fr _ _ _ _ => F5
    rename News _ _ _ _ => N5
    have hb : (cellAt rl p).1 ≤ 2 := (cell_get hlo hp0 hp3).2
    refine lt_all _ _ _ _ _ _ _ _ _ _ _ _ _ _ _ _ _ _ _ _ _ _ _ B1 F5 X1 N5 T1 rfl hx hy ?_ ?_ ?_ ?_
    · show dp + 1 + (cellAt rl p).1 + 5 < recursionLimit
      omega
    · show un + 3 + 8 * (cellAt rl p).1 + 50 < cLine
      omega
    · intro hlt h6 tk6 e6 hx6
      k_unfold
      dsimp only
      refine leave_arrives B1 hx6 ?_ rfl
      intro h7 R7 U7
      refine exc ?_ _ h7 tk6 e6 (by assumption) (raised_sub (fun _ h => .tail _ h) R7) U7
      rw [meant, if_pos hlt]
    · intro hlt h6 tk6 F6 N6
      clear F5 N5
      by_cases hA : (cellAt rr p).1 < (cellAt rl p).1 ∨ (cellAt rl p).2 < (cellAt rr p).2
      · rw [decide_eq_true hA]
        k_steps
        rename Fr _ _ _ _ => F7
        rename News _ _ _ _ => N7
        exact ret _ (by rw [meant, if_neg hlt, if_pos hA]) _ _ _ F7 (fun q hq => N7 q (.tail _ hq))
      · rw [decide_eq_false hA]
        have hfg : (cellAt rr p).1 = (cellAt rl p).1 := by omega
        rw [hfg] at hy
        k_steps
        rename Fr _ _ _ _ => F5
        rename News _ _ _ _ => N5
        refine gt_all B1 F5 X1 N5 T1 rfl hx hy ?_ ?_ ?_
        · show dp + 1 + (cellAt rl p).1 + 5 < recursionLimit
          omega
        · show un + 3 + 8 * (cellAt rl p).1 + 50 < cLine
          omega
        · intro h8 tk8 F8 N8
          clear F5 N5
          by_cases hC : (cellAt rr p).2 < (cellAt rl p).2
          · rw [decide_eq_true hC]
            k_steps
            rename Fr _ _ _ _ => F7
            rename News _ _ _ _ => N7
            exact ret _ (by rw [meant, if_neg hlt, if_neg hA, if_pos hC]) _ _ _ F7 (fun q hq => N7 q (.tail _ hq))
          · rw [decide_eq_false hC]
            k_steps
            rename Fr _ _ _ _ => F7
            rename News _ _ _ _ => N7
            have hm : meant ((p, d) :: ks') rl rr = meant ks' rl rr := by rw [meant, if_neg hlt, if_neg hA, if_neg hC]
            refine ⟨_, _, _, news, rfl, F7, N7, ?_, hsub, ?_⟩
            · intro q hq z hz
              rw [List.mem_singleton.mp hz]
              exact Nat.ne_of_lt (hI q hq)
            · refine ih (fun z hz => hko z (.tail _ hz)) (fun h => exc (by rw [hm]; exact h)) (fun i h => ret i (by rw [hm]; exact h)) _ ⟨?_, ?_⟩
              · rfl
              · rfl
end Mine
end
section
open PySem PySem.W PyProof.Rows PySem.Calls
namespace Mine
def Stopped (P : Prop) : Prop := P
theorem stopped {P : Prop} (h : Stopped P) : P := h
theorem unstop {P : Prop} (h : P) : Stopped P := h
-- a breakpoint: the walk stands still at a call of a def that has a contract
local macro_rules | `(tactic| walk_at "call ref") => `(tactic| ((with_reducible show wpAny _ _ (PySem.call (Value.ref 42) _ _) _ _ _); refine Mine.stopped ?_))
/-- what `_law_told` and `_law_meant` hand back -/
def Told1 (v : Value) : Option Int → Prop
  | some i => ∃ t, v = .int i t
  | none => ∃ t, v = .str "refused" t
variable {w : World} {mean : ExcName → Option Value} {mg mb : Str → Option Value}
theorem f_cmpC : findIn (hd.heap_39 w.params) (.ref 45) "compare" = some (some (.ref 42)) := by
  refine (?_ : PySem.Challenge.rw_pg0051_01 = PySem.Challenge.rw_pg0051_01 → _) rfl; k_fill; intro _; k_is
theorem f_gaC2 : findIn (hd.heap_39 w.params) (.ref 45) "__getattr__" = some none := by k_is
theorem f_fnC : typeIn (hd.heap_39 w.params) (.ref 42) = some (.type "function") := beq_iff_eq.mp (by show isFn (hd.heap_39 w.params) (.ref 42) = true; k_is)

theorem told_ctr {dp un : Nat} {gd : Option (List Code)} {cn : Str} {cs : Scope} {a : Addr} {ccd : Value} {outer : List Env} {A₀ : Around} {base g₀ h₀ : Heap} {L : Addr} {m : Str → Option Value} {news : List (Addr × Obj)} {s : Shared} {comp l r : Value} {ks : List (Int × Int)} {rl rr : Row}
    {Q E : Value → Shared → Prop}
    (XB : (hd.heap_39 w.params).In base) (TB : Top topProg LO mean mg mb base) (T0 : KtsTurn (outer.filterMap (·.frame)) g₀ h₀) (D : KtsDicts (outer.filterMap (·.frame)) h₀)
    (B : Below A₀ base outer h₀) (F : Fr h₀ L s.heap m) (X : (hd.heap_39 w.params).In h₀) (N : News h₀ L s.heap news) (T : Top topProg LO mean mg mb h₀) (hk : cs.kind = .function)
    (hc : CompIs news comp ks) (hl : RowIs news l rl) (hr : RowIs news r rr) (hko : KeysOk ks) (hlo : RowOk rl) (hro : RowOk rr)
    (hdp : dp + 30 < recursionLimit) (hun : un + 200 < cLine)
    (ret : ∀ h₀' h' tk v, KtsTurn (outer.filterMap (·.frame)) g₀ h₀' → KtsDicts (outer.filterMap (·.frame)) h₀' → Below A₀ base outer h₀' → Fr h₀' L h' m → (hd.heap_39 w.params).In h₀' → News h₀' L h' news → Top topProg LO mean mg mb h₀' → Told1 v (meant ks rl rr) → Q v { s with heap := h', toks := tk }) :
    wpAny (model PySem.Challenge.rw_pg0051_01.row.prog w) (topO dp un gd cn cs L a ccd outer) (call (.ref 132) [comp, l, r]) Q E s := by
  w_top off; revert X; k_fill; intro X
  refine wpAny_call ?_
  k_dflt (refine' code_defS ?k1 ?k2 ?k3 ?k4 ?k5 ?XB ?TB ?D ?T0 ?kA ?k6 ?k7 ?k8 ?k9 ?kB ?_ ?cK ?c2 ?c3 ?c4 ?c5; (case kA => exact rfl); (case k2 => exact F); (case k1 => exact B); (case XB => exact XB); (case TB => exact TB); (case D => exact D); (case T0 => exact T0); (case k3 => exact X); (case k4 => exact N); (case k5 => exact T); (case k6 => k_is); (case k7 => k_is); (case k8 => show dp < recursionLimit; omega); (case k9 => exact BindsTo.of_eq rfl); (case kB => exact locs rfl); (case cK => exact hk); (case c2 => exact rfl); (case c3 => exact rfl); (case c4 => exact rfl); (case c5 => decide))
  intro g' L' h1 FG' F' N' B' X' T' D'
  dsimp only
  k_fold
  have hc' := hc
  obtain ⟨c, dc, es, n, lk, vs, k, rfl, hc1, hc2, hc3, hc4, hc5⟩ := hc
  k_steps
  refine method_fn (X'.keeps F'.keep) (W.InstAt.of_news N' hc1 hc2) f_gaC f_gaC2 f_cmpC f_fnC (by show (lookIn "compare" (dictOf es n)).map _ = _; rw [lookIn_dict, hc3.2]; rfl) ?_
  k_steps
  refine unstop ?_
  rename Fr _ _ _ _ => F1
  rename News _ _ _ _ => N1
  refine compare_ctr B' F1 X' N1 T' rfl hc' hl hr hko hlo hro ?_ ?_ ?_ ?_
  · show dp + 1 + 20 < recursionLimit
    omega
  · show un + 3 + 100 < cLine
    omega
  · intro hm G h2 tk2 e2 FG R2 U2
    k_steps
    rename KtsTurn _ _ _ => kT
    rename KtsDicts _ _ => kD
    rename Below _ _ _ _ => kB
    rename Fr _ _ _ _ => kF
    rename News _ _ _ _ => kN
    rename Top _ _ _ _ _ _ => kP
    refine ret _ _ _ _ kT kD kB kF (by assumption) kN kP ?_
    rw [hm]
    exact ⟨_, rfl⟩
  · intro i hm h2 tk2 t2 F2 N2
    clear F1 N1
    k_steps
    rename Fr _ _ _ _ => kF
    rename News _ _ _ _ => kN
    refine ret _ _ _ _ T0 D B kF X kN T ?_
    rw [hm]
    exact ⟨_, rfl⟩
end Mine
end
section
open PySem PySem.W PyProof.Rows PySem.Calls
namespace Mine
local macro_rules | `(tactic| walk_at "pad") => `(tactic| fail "pad")
local macro_rules | `(tactic| walk_at "call ref") => `(tactic| ((with_reducible show wpAny _ _ (PySem.call (Value.ref 132) _ _) _ _ _); refine Mine.stopped ?_))

/-- is the row ahead of the other -/
def ahead (ks : List (Int × Int)) (l r : Row) : Bool :=
  match meant ks l r with
  | some i => decide (i < 0)
  | none => match meant ks r l with
    | some i => decide (0 < i)
    | none => false

theorem meant_turn : ∀ (ks : List (Int × Int)) (l r : Row), meant ks l r = none → ∃ i, meant ks r l = some i
  | [], _, _, h => by simp [meant] at h
  | (p, d) :: ks, l, r, h => by
    rw [meant] at h ⊢
    by_cases h1 : (cellAt l p).1 < (cellAt r p).1
    · rw [if_neg (by omega), if_pos (.inl h1)]
      exact ⟨_, rfl⟩
    · rw [if_neg h1] at h
      by_cases h2 : (cellAt r p).1 < (cellAt l p).1 ∨ (cellAt l p).2 < (cellAt r p).2
      · rw [if_pos h2] at h; cases h
      · rw [if_neg h2] at h
        by_cases h3 : (cellAt r p).2 < (cellAt l p).2
        · rw [if_pos h3] at h; cases h
        · rw [if_neg h3] at h
          rw [if_neg (by omega), if_neg (by omega), if_neg (by omega)]
          exact meant_turn ks l r h

variable {w : World} {mean : ExcName → Option Value} {mg mb : Str → Option Value}
theorem ahead_ctr {dp un : Nat} {gd : Option (List Code)} {cn : Str} {cs : Scope} {a : Addr} {ccd : Value} {outer : List Env} {A₀ : Around} {base g₀ h₀ : Heap} {L : Addr} {m : Str → Option Value} {news : List (Addr × Obj)} {s : Shared} {comp l r : Value} {ks : List (Int × Int)} {rl rr : Row}
    {Q E : Value → Shared → Prop}
    (XB : (hd.heap_39 w.params).In base) (TB : Top topProg LO mean mg mb base) (T0 : KtsTurn (outer.filterMap (·.frame)) g₀ h₀) (D : KtsDicts (outer.filterMap (·.frame)) h₀)
    (B : Below A₀ base outer h₀) (F : Fr h₀ L s.heap m) (X : (hd.heap_39 w.params).In h₀) (N : News h₀ L s.heap news) (T : Top topProg LO mean mg mb h₀) (hk : cs.kind = .function)
    (hc : CompIs news comp ks) (hl : RowIs news l rl) (hr : RowIs news r rr) (hko : KeysOk ks) (hlo : RowOk rl) (hro : RowOk rr)
    (hdp : dp + 40 < recursionLimit) (hun : un + 300 < cLine)
    (ret : ∀ h₀' h' tk, KtsTurn (outer.filterMap (·.frame)) g₀ h₀' → KtsDicts (outer.filterMap (·.frame)) h₀' → Below A₀ base outer h₀' → Fr h₀' L h' m → (hd.heap_39 w.params).In h₀' → News h₀' L h' news → Top topProg LO mean mg mb h₀' → Q (.bool (ahead ks rl rr)) { s with heap := h', toks := tk }) :
    wpAny (model PySem.Challenge.rw_pg0051_01.row.prog w) (topO dp un gd cn cs L a ccd outer) (call (.ref 146) [comp, l, r]) Q E s := by
  w_top off; revert X; k_fill; intro X
  refine wpAny_call ?_
  k_dflt (refine' code_defS ?k1 ?k2 ?k3 ?k4 ?k5 ?XB ?TB ?D ?T0 ?kA ?k6 ?k7 ?k8 ?k9 ?kB ?_ ?cK ?c2 ?c3 ?c4 ?c5; (case kA => exact rfl); (case k2 => exact F); (case k1 => exact B); (case XB => exact XB); (case TB => exact TB); (case D => exact D); (case T0 => exact T0); (case k3 => exact X); (case k4 => exact N); (case k5 => exact T); (case k6 => k_is); (case k7 => k_is); (case k8 => show dp < recursionLimit; omega); (case k9 => exact BindsTo.of_eq rfl); (case kB => exact locs rfl); (case cK => exact hk); (case c2 => exact rfl); (case c3 => exact rfl); (case c4 => exact rfl); (case c5 => decide))
  intro g' L' h1 FG' F' N' B' X' T' D'
  dsimp only
  k_fold
  k_steps
  refine unstop ?_
  rename Fr _ _ _ _ => F1
  rename News _ _ _ _ => N1
  refine told_ctr XB TB KtsTurn.refl D' B' F1 X' N1 T' rfl hc hl hr hko hlo hro ?_ ?_ ?_
  · show dp + 1 + 30 < recursionLimit
    omega
  · show un + 3 + 200 < cLine
    omega
  intro g2 h2 tk2 v2 T2 D2 B2 F2 X2 N2 P2 hv
  clear F1 N1
  cases hm : meant ks rl rr with
  | some i =>
    rw [hm] at hv
    obtain ⟨t2, rfl⟩ := hv
    k_steps
    rename KtsTurn _ _ _ => kT
    rename KtsDicts _ _ => kD
    rename Below _ _ _ _ => kB
    rename Fr _ _ _ _ => kF
    rename News _ _ _ _ => kN
    rename Top _ _ _ _ _ _ => kP
    have e : ahead ks rl rr = decide (i < 0) := by unfold ahead; rw [hm]
    rw [← e]
    exact ret _ _ _ kT kD kB kF (by assumption) kN kP
  | none =>
    rw [hm] at hv
    obtain ⟨t2, rfl⟩ := hv
    obtain ⟨i, hi⟩ := meant_turn ks rl rr hm
    k_steps
    refine unstop ?_
    rename Fr _ _ _ _ => F1
    rename News _ _ _ _ => N1
    refine told_ctr XB TB T2 D2 B2 F1 X2 N1 P2 rfl hc hr hl hko hro hlo ?_ ?_ ?_
    · show dp + 1 + 30 < recursionLimit
      omega
    · show un + 3 + 200 < cLine
      omega
    intro g3 h3 tk3 v3 T3 D3 B3 F3 X3 N3 P3 hv
    clear F1 N1
    rw [hi] at hv
    obtain ⟨t3, rfl⟩ := hv
    k_steps
    rename KtsTurn _ _ _ => kT
    rename KtsDicts _ _ => kD
    rename Below _ _ _ _ => kB
    rename Fr _ _ _ _ => kF
    rename News _ _ _ _ => kN
    rename Top _ _ _ _ _ _ => kP
    have e : ahead ks rl rr = decide (0 < i) := by unfold ahead; rw [hm]; dsimp only; rw [hi]
    rw [← e]
    exact ret _ _ _ kT kD kB kF (by assumption) kN kP
end Mine
end
section
open PySem PySem.W PyProof.Rows PySem.Calls
namespace Mine
def CellIs (news : List (Addr × Obj)) (v : Value) (c : Nat × Int) : Prop := ∃ T n t t', v = .ref T ∧ (T, tupO [.int (c.1 : Int) t, .int c.2 t'] n) ∈ news
/-- a drawn row: a list of pairs -/
def DrawnIs (news : List (Addr × Obj)) (v : Value) (r : Row) : Prop := ∃ a n vs, v = .ref a ∧ (a, listOf vs.toArray n) ∈ news ∧ All2 (CellIs news) vs r
def KeysIs (news : List (Addr × Obj)) (v : Value) (ks : List (Int × Int)) : Prop := ∃ lk k vs, v = .ref lk ∧ (lk, listOf vs.toArray k) ∈ news ∧ All2 (KeyIs news) vs ks
theorem CellIs.mono {news news' : List (Addr × Obj)} (hs : ∀ p ∈ news, p ∈ news') {v : Value} {c : Nat × Int} : CellIs news v c → CellIs news' v c
  | ⟨T, n, t, t', e, h⟩ => ⟨T, n, t, t', e, hs _ h⟩
theorem DrawnIs.mono {news news' : List (Addr × Obj)} (hs : ∀ p ∈ news, p ∈ news') {v : Value} {r : Row} : DrawnIs news v r → DrawnIs news' v r
  | ⟨a, n, vs, e, h1, h2⟩ => ⟨a, n, vs, e, hs _ h1, h2.mono fun _ _ => CellIs.mono hs⟩
theorem KeysIs.mono {news news' : List (Addr × Obj)} (hs : ∀ p ∈ news, p ∈ news') {v : Value} {ks : List (Int × Int)} : KeysIs news v ks → KeysIs news' v ks
  | ⟨a, n, vs, e, h1, h2⟩ => ⟨a, n, vs, e, hs _ h1, h2.mono fun _ _ => KeyIs.mono hs⟩

variable {w : World} {mean : ExcName → Option Value} {mg mb : Str → Option Value}
theorem item_drawn {prog : Program} {A : Around} {E : Value → Shared → Prop} {s : Shared} {h₀ : Heap} {L : Addr} {news : List (Addr × Obj)} {value slice : PySem.Expr} {v : Value} {r : Row} {k : Int} {u : Tok} {Q : Value → Shared → Prop} (N : News h₀ L s.heap news) (hr : DrawnIs news v r) (ho : RowOk r) (h0 : 0 ≤ k) (h3 : k < 3)
    (h : ∀ T n t t', (T, tupO [.int ((cellAt r k).1 : Int) t, .int (cellAt r k).2 t'] n) ∈ news → Q (.ref T) s)
    (hs : ∀ t, subscripted slice false (.ref t) (.int k u) = operate [.ref t, .int k u] (getItem (.ref t) (.int k u)) := by intro t; with_unfolding_all rfl) (hg : ∀ t r, letTemporaryGo value (.ref t) r = pure () := by intro _ _; with_unfolding_all rfl) :
    wpAny (model prog w) A (subscriptTail value slice v (.int k u)) Q E s := by
  obtain ⟨a, n, vs, rfl, hm, hv⟩ := hr
  obtain ⟨hg', _⟩ := cell_get ho h0 h3
  obtain ⟨x, hx, T, n', t, t', rfl, hT⟩ := hv.get hg'
  exact item_listL (l := vs) ⟨_, (N _ hm).1, rfl, n, rfl⟩ h0 (by omega) hx (h T n' t t' hT) (hs a) (hg a)

theorem meant_ctr {dp un : Nat} {gd : Option (List Code)} {cn : Str} {cs : Scope} {a : Addr} {ccd : Value} {outer : List Env} {A₀ : Around} {base h₀ : Heap} {L : Addr} {m : Str → Option Value} {news : List (Addr × Obj)} {s : Shared} {kv l r : Value} {ks : List (Int × Int)} {rl rr : Row}
    {Q E : Value → Shared → Prop}
    (B : Below A₀ base outer h₀) (F : Fr h₀ L s.heap m) (X : (hd.heap_39 w.params).In h₀) (N : News h₀ L s.heap news) (T : Top topProg LO mean mg mb h₀) (hk : cs.kind = .function)
    (hc : KeysIs news kv ks) (hl : DrawnIs news l rl) (hr : DrawnIs news r rr) (hko : KeysOk ks) (hlo : RowOk rl) (hro : RowOk rr)
    (hdp : dp + 20 < recursionLimit) (hun : un + 100 < cLine)
    (ret : ∀ h' tk v, Fr h₀ L h' m → News h₀ L h' news → Told1 v (meant ks rl rr) → Q v { s with heap := h', toks := tk }) :
    wpAny (model PySem.Challenge.rw_pg0051_01.row.prog w) (topO dp un gd cn cs L a ccd outer) (call (.ref 139) [kv, l, r]) Q E s := by
  w_top off; revert X; k_fill; intro X
  obtain ⟨lk, k, vs, rfl, hc4, hc5⟩ := hc
  refine wpAny_call ?_
  k_dflt ktr_enter
  refine wpAny_execs_cons ?_
  rename Fr _ _ _ _ => F1
  rename News _ _ _ _ => N1
  rename (hd.heap_39 w.params).In _ => X1
  with_unfolding_all refine For_turns F1 ?_
  refine ld F1 rfl ?_
  refine iter_listTurns rfl F1 N1 hc4 rfl rfl ?_
  intro I hI
  have hsub : SubL [(lk, listOf vs.toArray k)] news := ⟨hc4, trivial⟩
  clear F1 N1
  generalize [(lk, listOf vs.toArray k)] = keep at hsub ⊢
  clear hc4
  refine itemsRest_gen (fun m1 => m1 "left" = some l ∧ m1 "right" = some r) ⟨rfl, rfl⟩ ?_
  rename Below _ _ _ _ => B1
  rename Top _ _ _ _ _ _ => T1
  induction hc5 with
  | nil =>
    rintro m1 ⟨hm1, hm2⟩
    refine ItemsRest.zero ?_
    intro h2 tk2 F2 N2
    dsimp only
    k_steps
    rename Fr _ _ _ _ => F3
    rename News _ _ _ _ => N3
    exact ret _ _ _ F3 N3 ⟨_, rfl⟩
  | @cons kv k0 vs' ks' hkey hrest ih =>
    rintro m1 ⟨hm1, hm2⟩
    rw [List.map_cons]
    refine ItemsRest.val ?_
    intro h2 tk2 F2
    refine AllObj.cons ?_
    intro oi hoi
    refine AllObj.nil ?_
    intro N2
    obtain ⟨T', n', t1, t2, rfl, hT⟩ := hkey
    obtain ⟨p, d⟩ := k0
    dsimp only at hT F2 N2 ⊢
    simp only [List.cons_append, List.nil_append] at N2
    rw [map_two hm1 hm2] at F2
    refine unpackN_ F2 N2 (News.isTup N2 (.tail _ hT)) rfl rfl rfl ?_
    intro h3 F3 N3
    clear F2 N2
    obtain ⟨hp0, hp3⟩ := hko (p, d) (.head _)
    have hl2 : DrawnIs ((I, oi) :: news) l rl := hl.mono fun _ h => .tail _ h
    have hr2 : DrawnIs ((I, oi) :: news) r rr := hr.mono fun _ h => .tail _ h
    k_steps
    rename News _ _ _ _ => N4
    refine item_drawn N4 hl2 hlo hp0 hp3 ?_
    intro Tl nl tl tl' hTl
    k_steps
    rename News _ _ _ _ => N4
    refine item_drawn N4 hr2 hro hp0 hp3 ?_
    intro Tr nr tr tr' hTr
    have leave : ∀ h' tk v, Fr h₀ L h' m → News h₀ L h' ((I, oi) :: news) → Told1 v (meant ((p, d) :: ks') rl rr) → Q v { s with heap := h', toks := tk } := fun h' tk v F' N' => ret h' tk v F' (fun q hq => N' q (.tail _ hq))
    by_cases hA : (cellAt rl p).1 < (cellAt rr p).1
    · k_steps
      rename Fr _ _ _ _ => F7
      rename News _ _ _ _ => N7
      exact leave _ _ _ F7 N7 (by rw [meant, if_pos hA]; exact ⟨_, rfl⟩)
    · by_cases hB : (cellAt rr p).1 < (cellAt rl p).1
      · k_steps
        rename Fr _ _ _ _ => F7
        rename News _ _ _ _ => N7
        exact leave _ _ _ F7 N7 (by rw [meant, if_neg hA, if_pos (.inl hB)]; exact ⟨_, rfl⟩)
      · by_cases hC : (cellAt rl p).2 < (cellAt rr p).2
        · k_steps
          rename Fr _ _ _ _ => F7
          rename News _ _ _ _ => N7
          exact leave _ _ _ F7 N7 (by rw [meant, if_neg hA, if_pos (.inr hC)]; exact ⟨_, rfl⟩)
        · by_cases hD : (cellAt rr p).2 < (cellAt rl p).2
          · k_steps
            rename Fr _ _ _ _ => F7
            rename News _ _ _ _ => N7
            exact leave _ _ _ F7 N7 (by rw [meant, if_neg hA, if_neg (by omega), if_pos hD]; exact ⟨_, rfl⟩)
          · k_steps
            rename Fr _ _ _ _ => F7
            rename News _ _ _ _ => N7
            have hm : meant ((p, d) :: ks') rl rr = meant ks' rl rr := by rw [meant, if_neg hA, if_neg (by omega), if_neg hD]
            refine ⟨_, _, _, news, rfl, F7, N7, ?_, hsub, ?_⟩
            · intro q hq z hz
              rw [List.mem_singleton.mp hz]
              exact Nat.ne_of_lt (hI q hq)
            · refine ih (fun z hz => hko z (.tail _ hz)) (fun h' tk v F' N' h => ret h' tk v F' N' (by rw [hm]; exact h)) _ ⟨?_, ?_⟩
              · rfl
              · rfl
end Mine
end
section
open PySem PySem.W PyProof.Rows PySem.Calls
namespace Mine
theorem unrEnd_filter {h₀ : Heap} {L I : Addr} {it : Obj} {rest : (Str → Option Value) → List (Addr × Obj) → Prop} {s₁ : Shared} {h' : Heap} {tk : Nat} {m' : Str → Option Value} {all : List (Addr × Obj)} (F : Fr h₀ L h' m') (N : News h₀ L h' all) (hI : (I, it) ∈ all)
    (r : ∀ news', (∀ p ∈ all, p.1 ≠ I → p ∈ news') → rest m' news') : UnrEnd h₀ L s₁ I it rest { s₁ with heap := h', toks := tk } := by
  refine UnrEnd.intro F N (all.filter fun p => decide (p.1 ≠ I)) (fun p hp => ?_) (fun p hp => ?_) (r _ fun p hp hne => ?_)
  · rcases List.mem_cons.mp hp with rfl | hp
    · exact hI
    · exact (List.mem_filter.mp hp).1
  · have := (List.mem_filter.mp hp).2
    simpa using this
  · exact List.mem_filter.mpr ⟨hp, by simpa using hne⟩

variable {w : World} {mean : ExcName → Option Value} {mg mb : Str → Option Value}
theorem nest_ctr {dp un : Nat} {gd : Option (List Code)} {cn : Str} {cs : Scope} {a : Addr} {ccd : Value} {outer : List Env} {A₀ : Around} {base h₀ : Heap} {L : Addr} {m : Str → Option Value} {news : List (Addr × Obj)} {s : Shared} {f : Nat} {n : Int} {t1 t2 : Tok}
    {Q E : Value → Shared → Prop}
    (B : Below A₀ base outer h₀) (F : Fr h₀ L s.heap m) (X : (hd.heap_39 w.params).In h₀) (N : News h₀ L s.heap news) (T : Top topProg LO mean mg mb h₀) (hk : cs.kind = .function)
    (hf : f ≤ 2) (hdp : dp + 20 < recursionLimit) (hun : un + 100 < cLine)
    (ret : ∀ r tl h' tk, Fr h₀ L h' m → News h₀ L h' (news ++ tl) → (∀ q ∈ news, ∀ p ∈ tl, q.1 < p.1) → Nest tl f r n → Q r { s with heap := h', toks := tk }) :
    wpAny (model PySem.Challenge.rw_pg0051_01.row.prog w) (topO dp un gd cn cs L a ccd outer) (call (.ref 115) [.int (f : Int) t1, .int n t2]) Q E s := by
  have hn : n = 1000 ∨ n = 500 ∨ (¬ n = 1000 ∧ ¬ n = 500) := by omega
  have hf' : f = 0 ∨ f = 1 ∨ f = 2 := by omega
  have fin1 : ∀ all h' tk x dx C es c v', f = 1 → Fr h₀ L h' m → News h₀ L h' all → (∀ p ∈ news, p ∈ all) → (x, instObj C dx) ∈ all → (dx, dictOf es c) ∈ all → (∀ q ∈ news, q.1 < dx) → dx < x → (∃ t, v' = .int n t) →
      ((C = 80 ∧ getL "handler_order" es = some (some v')) ∨ (C = 80 ∧ getL "handler_order" es = some none ∧ v' = .int 500 252) ∨ (C = 101 ∧ getL "handler_order" es = some none ∧ v' = .int 1000 297)) → Q (.ref x) { s with heap := h', toks := tk } := by
    intro all h' tk x dx C es c v' e F' N' hs h1 h2 h3 h4 h5 h6
    subst e
    refine ret _ [(x, instObj C dx), (dx, dictOf es c)] h' tk F' (fun p hp => ?_) (fun q hq p hp => ?_) ⟨x, dx, C, es, c, v', rfl, .head _, .tail _ (.head _), h5, h6⟩
    · rcases List.mem_append.mp hp with hp | hp
      · exact N' p (hs p hp)
      · rcases List.mem_cons.mp hp with rfl | hp
        · exact N' _ h1
        · rw [List.mem_singleton.mp hp]; exact N' _ h2
    · rcases List.mem_cons.mp hp with rfl | hp
      · exact Nat.lt_trans (h3 q hq) h4
      · rw [List.mem_singleton.mp hp]; exact h3 q hq
  have fin2 : ∀ all h' tk x2 dx2 es2 c2 x dx C es c v', f = 2 → Fr h₀ L h' m → News h₀ L h' all → (∀ p ∈ news, p ∈ all) → (x2, instObj 80 dx2) ∈ all → (dx2, dictOf es2 c2) ∈ all → getL "handler_order" es2 = some (some (.ref x)) → (x, instObj C dx) ∈ all → (dx, dictOf es c) ∈ all → (∀ q ∈ news, q.1 < dx) → dx < x → dx < x2 → dx < dx2 → (∃ t, v' = .int n t) →
      ((C = 80 ∧ getL "handler_order" es = some (some v')) ∨ (C = 80 ∧ getL "handler_order" es = some none ∧ v' = .int 500 252) ∨ (C = 101 ∧ getL "handler_order" es = some none ∧ v' = .int 1000 297)) → Q (.ref x2) { s with heap := h', toks := tk } := by
    intro all h' tk x2 dx2 es2 c2 x dx C es c v' e F' N' hs g1 g2 g3 h1 h2 h3 h4 h5 h6 h7 h8
    subst e
    refine ret _ [(x2, instObj 80 dx2), (dx2, dictOf es2 c2), (x, instObj C dx), (dx, dictOf es c)] h' tk F' (fun p hp => ?_) (fun q hq p hp => ?_)
      ⟨x2, dx2, 80, es2, c2, .ref x, rfl, .head _, .tail _ (.head _), ⟨x, dx, C, es, c, v', rfl, .tail _ (.tail _ (.head _)), .tail _ (.tail _ (.tail _ (.head _))), h7, h8⟩, .inl ⟨rfl, g3⟩⟩
    · rcases List.mem_append.mp hp with hp | hp
      · exact N' p (hs p hp)
      · simp only [List.mem_cons, List.not_mem_nil, or_false] at hp
        rcases hp with rfl | rfl | rfl | rfl
        · exact N' _ g1
        · exact N' _ g2
        · exact N' _ h1
        · exact N' _ h2
    · have := h3 q hq
      simp only [List.mem_cons, List.not_mem_nil, or_false] at hp
      rcases hp with rfl | rfl | rfl | rfl
      · exact Nat.lt_trans this h5
      · exact Nat.lt_trans this h6
      · exact Nat.lt_trans this h4
      · exact this
  w_top off; revert X; k_fill; intro X
  rcases hf' with rfl | rfl | rfl
  · refine wpAny_call ?_
    k_dflt ktr_enter
    k_steps
    rename Fr _ _ _ _ => F1
    rename News _ _ _ _ => N1
    exact ret _ [] _ _ F1 (by rw [List.append_nil]; exact N1) (fun _ _ _ h => nomatch h) ⟨_, rfl⟩
  · refine wpAny_call ?_
    k_dflt ktr_enter
    k_steps
    all_goals first
      | (exfalso; omega; done)
      | (refine fin1 _ _ _ _ _ _ _ _ _ rfl (by assumption) (by assumption) (fun p hp => by repeat (first | exact hp | refine List.Mem.tail _ ?_)) (by k_mem) (by k_mem) (by assumption) (by assumption) ?_ (.inl ⟨rfl, by k_get⟩); exact ⟨_, rfl⟩)
      | (refine fin1 _ _ _ _ _ _ _ _ _ rfl (by assumption) (by assumption) (fun p hp => by repeat (first | exact hp | refine List.Mem.tail _ ?_)) (by k_mem) (by k_mem) (by assumption) (by assumption) ?_ (.inr (.inl ⟨rfl, by k_get, rfl⟩)); exact ⟨_, by rw [show n = 500 by omega]⟩)
      | (refine fin1 _ _ _ _ _ _ _ _ _ rfl (by assumption) (by assumption) (fun p hp => by repeat (first | exact hp | refine List.Mem.tail _ ?_)) (by k_mem) (by k_mem) (by assumption) (by assumption) ?_ (.inr (.inr ⟨rfl, by k_get, rfl⟩)); exact ⟨_, by rw [show n = 1000 by omega]⟩)
  · refine wpAny_call ?_
    k_dflt ktr_enter
    k_steps
    all_goals first
      | (exfalso; omega; done)
      | (refine unrEnd_filter (by assumption) (by assumption) (by k_mem) ?_
         intro nw hnw
         with_unfolding_all refine RangeRest.zero ?_
         intro h9 tk9 F9 N9
         dsimp only
         k_steps)
    all_goals first
      | (refine fin2 _ _ _ _ _ _ _ _ _ _ _ _ _ rfl (by assumption) (by assumption) (fun p hp => hnw p (by repeat (first | exact hp | refine List.Mem.tail _ ?_)) (Nat.ne_of_lt (tb_ltOf (by tbn_find) p hp))) (hnw _ (by k_mem) (by k_ne)) (hnw _ (by k_mem) (by k_ne)) (by k_get) (hnw _ (by k_mem) (by k_ne)) (hnw _ (by k_mem) (by k_ne)) (by assumption) (by assumption) (ltN (by omega)) (ltN (by omega)) ?_ (.inl ⟨rfl, by k_get⟩); exact ⟨_, rfl⟩)
      | (refine fin2 _ _ _ _ _ _ _ _ _ _ _ _ _ rfl (by assumption) (by assumption) (fun p hp => hnw p (by repeat (first | exact hp | refine List.Mem.tail _ ?_)) (Nat.ne_of_lt (tb_ltOf (by tbn_find) p hp))) (hnw _ (by k_mem) (by k_ne)) (hnw _ (by k_mem) (by k_ne)) (by k_get) (hnw _ (by k_mem) (by k_ne)) (hnw _ (by k_mem) (by k_ne)) (by assumption) (by assumption) (ltN (by omega)) (ltN (by omega)) ?_ (.inr (.inl ⟨rfl, by k_get, rfl⟩)); exact ⟨_, by rw [show n = 500 by omega]⟩)
      | (refine fin2 _ _ _ _ _ _ _ _ _ _ _ _ _ rfl (by assumption) (by assumption) (fun p hp => hnw p (by repeat (first | exact hp | refine List.Mem.tail _ ?_)) (Nat.ne_of_lt (tb_ltOf (by tbn_find) p hp))) (hnw _ (by k_mem) (by k_ne)) (hnw _ (by k_mem) (by k_ne)) (by k_get) (hnw _ (by k_mem) (by k_ne)) (hnw _ (by k_mem) (by k_ne)) (by assumption) (by assumption) (ltN (by omega)) (ltN (by omega)) ?_ (.inr (.inr ⟨rfl, by k_get, rfl⟩)); exact ⟨_, by rw [show n = 1000 by omega]⟩)
end Mine
end
section
open PySem PySem.W PyProof.Rows PySem.Calls
namespace Mine
theorem news_app_nil {h₀ h : Heap} {L : Addr} {news : List (Addr × Obj)} (N : News h₀ L h news) : News h₀ L h (news ++ []) := by
  rw [List.append_nil]; exact N
def Apart (news tl : List (Addr × Obj)) : Prop := ∀ q ∈ news, ∀ p ∈ tl, q.1 ≠ p.1
theorem Apart.nil {news : List (Addr × Obj)} : Apart news [] := fun _ _ _ h => nomatch h
theorem Apart.of_lt {news tl : List (Addr × Obj)} (h : ∀ q ∈ news, ∀ p ∈ tl, q.1 < p.1) : Apart news tl := fun q hq p hp => Nat.ne_of_lt (h q hq p hp)
theorem Apart.app {news tl tl' : List (Addr × Obj)} (h : Apart news tl) (h' : Apart news tl') : Apart news (tl ++ tl') := fun q hq p hp => (List.mem_append.mp hp).elim (h q hq p) (h' q hq p)
theorem Apart.sub {news news' tl : List (Addr × Obj)} (h : Apart news tl) (hs : ∀ p ∈ news', p ∈ news) : Apart news' tl := fun q hq p hp => h q (hs q hq) p hp
theorem All2.snoc {α β : Type} {R : α → β → Prop} {a : α} {b : β} (r : R a b) : ∀ {as : List α} {bs : List β}, All2 R as bs → All2 R (as ++ [a]) (bs ++ [b])
  | _, _, .nil => .cons r .nil
  | _, _, .cons x y => .cons x (y.snoc r)
theorem All2.get' {α β : Type} {R : α → β → Prop} : ∀ {as : List α} {bs : List β} (_ : All2 R as bs) {i : Nat} {a : α}, as[i]? = some a → ∃ b, bs[i]? = some b ∧ R a b
  | _, _, .nil, i, b, h => by simp at h
  | _, _, .cons x y, 0, b, h => by
    rw [List.getElem?_cons_zero] at h
    cases h
    exact ⟨_, by simp, x⟩
  | _, _, .cons x y, i + 1, b, h => by
    obtain ⟨a, ha, hr⟩ := y.get' (i := i) (a := b) (by simpa using h)
    exact ⟨a, by simpa using ha, hr⟩

section
open LCg
variable {prog : Program} {w : World} {A : Around} {s : Shared} {h₀ : Heap} {L : Addr} {m : Str → Option Value} {env : Env} {elt : PySem.Expr} {x x₂ : Str} {scope : Scope} {cl : List (Str × Addr)} {S : List (Addr × Obj) → Prop} {P : Nat → Value → Prop} {Fin : List Value → List (Addr × Obj) → Prop} {news : List (Addr × Obj)}

/-- what one element of a comprehension leaves -/
def ElemOut {γ : Type} (h₀ : Heap) (L : Addr) (m : Str → Option Value) (Out : List (Addr × Obj) → Value → γ → Prop) (s : Shared) (all tl : List (Addr × Obj)) (c : γ) (y : Value) (s' : Shared) : Prop :=
  ∃ h' tk' tl', s' = { s with heap := h', toks := tk' } ∧ Fr h₀ L h' m ∧ News h₀ L h' (all ++ tl') ∧ Apart all tl' ∧ Out (tl ++ tl') y c

theorem off3_app {I C D : Addr} {oI oC oD : Obj} {news tl : List (Addr × Obj)} (o : Off3 I C D news) (ha : Apart ((I, oI) :: (C, oC) :: (D, oD) :: news) tl) : Off3 I C D (news ++ tl) :=
  Off3.of fun p hp => by
    rcases List.mem_append.mp hp with hp | hp
    · exact o.mem p hp
    · exact ⟨Ne.symm (ha _ (.head _) p hp), Ne.symm (ha _ (.tail _ (.head _)) p hp), Ne.symm (ha _ (.tail _ (.tail _ (.head _))) p hp)⟩

theorem comp_all {β γ : Type} (f : β → γ) (Out : List (Addr × Obj) → Value → γ → Prop) (Src : Value → β → Prop) (hmono : ∀ a b v c, (∀ p ∈ a, p ∈ b) → Out a v c → Out b v c) {bs : List β}
    (hS : ∀ tl, S (news ++ tl)) (hP : ∀ i v, i < bs.length → P i v → ∃ b, bs[i]? = some b ∧ Src v b)
    (elem : ∀ v b, Src v b → b ∈ bs → ∀ tl ys I oI C oC D m₂ h tk (E' : Value → Shared → Prop), Apart news tl → NsObj oC m₂ → m₂ x = some v → Fr h₀ L h m → News h₀ L h ((I, oI) :: (C, oC) :: (D, lst ys) :: (news ++ tl)) →
      wpAny (model prog w) A (eval elt (compEnvC scope cl C env)) (ElemOut h₀ L m Out s ((I, oI) :: (C, oC) :: (D, lst ys) :: (news ++ tl)) tl (f b)) E' { s with heap := h, toks := tk })
    (fin : ∀ ys tl, Apart news tl → All2 (Out tl) ys (bs.map f) → Fin ys (news ++ tl)) :
    CompRest prog w A h₀ L m env elt x scope cl s S P Fin bs.length 0 [] news := by
  have key : ∀ k i ys tl, i + k = bs.length → Apart news tl → All2 (Out tl) ys ((bs.take i).map f) → CompRest prog w A h₀ L m env elt x scope cl s S P Fin k i ys (news ++ tl) := by
    intro k
    induction k with
    | zero =>
      intro i ys tl hi ha hys
      refine CompRest.zero (fin ys tl ha ?_)
      rw [List.take_of_length_le (by omega)] at hys
      exact hys
    | succ k ih =>
      intro i ys tl hi ha hys
      refine CompRest.succ ?_
      intro v I oI C oC D m₂ h tk E' hPv hns hx F N off hne
      obtain ⟨b, hb, hsrc⟩ := hP i v (by omega) hPv
      refine wpAny_mono (elem v b hsrc (List.mem_of_getElem? hb) tl ys I oI C oC D m₂ h tk E' ha hns hx F N) ?_ fun _ _ e => e
      rintro y s' ⟨h', tk', tl', rfl, F', N', ha', hout⟩
      refine ⟨h', tk', news ++ (tl ++ tl'), rfl, F', ?_, ?_, hS _, ?_⟩
      · intro p hp
        refine N' p ?_
        simp only [List.cons_append, List.append_assoc] at hp ⊢
        exact hp
      · have := off3_app off ha'
        rw [List.append_assoc] at this
        exact this
      · refine ih (i + 1) (ys ++ [y]) (tl ++ tl') (by omega) (ha.app (ha'.sub fun p hp => .tail _ (.tail _ (.tail _ (List.mem_append_left _ hp))))) ?_
        have e : (bs.take (i + 1)).map f = (bs.take i).map f ++ [f b] := by rw [List.take_add_one, hb]; simp
        rw [e]
        exact (hys.mono fun _ _ => hmono _ _ _ _ fun p hp => List.mem_append_left _ hp).snoc hout
  have := key bs.length 0 [] [] (by omega) Apart.nil (by simpa using All2.nil)
  simpa using this
end

section
open LCg LCp
variable {prog : Program} {w : World} {A : Around} {s : Shared} {h₀ : Heap} {L : Addr} {m : Str → Option Value} {env : Env} {elt : PySem.Expr} {x x₂ : Str} {scope : Scope} {cl : List (Str × Addr)} {S : List (Addr × Obj) → Prop} {P : Nat → Value → Prop} {Fin : List Value → List (Addr × Obj) → Prop} {news : List (Addr × Obj)}
theorem comp_pairs {β γ : Type} (f : β → γ) (Out : List (Addr × Obj) → Value → γ → Prop) (Src : Value → Value → β → Prop) (hmono : ∀ a b v c, (∀ p ∈ a, p ∈ b) → Out a v c → Out b v c) {bs : List β}
    (hS : ∀ tl, S (news ++ tl)) (hP : ∀ i v, i < bs.length → P i v → ∃ b t nt v₁ v₂, bs[i]? = some b ∧ v = .ref t ∧ (t, tupO [v₁, v₂] nt) ∈ news ∧ Src v₁ v₂ b)
    (elem : ∀ v₁ v₂ b, Src v₁ v₂ b → b ∈ bs → ∀ tl ys I oI C oC D m₂ h tk (E' : Value → Shared → Prop), Apart news tl → NsObj oC m₂ → m₂ x = some v₁ → m₂ x₂ = some v₂ → Fr h₀ L h m → News h₀ L h ((I, oI) :: (C, oC) :: (D, lst ys) :: (news ++ tl)) →
      wpAny (model prog w) A (eval elt (compEnvC scope cl C env)) (ElemOut h₀ L m Out s ((I, oI) :: (C, oC) :: (D, lst ys) :: (news ++ tl)) tl (f b)) E' { s with heap := h, toks := tk })
    (fin : ∀ ys tl, Apart news tl → All2 (Out tl) ys (bs.map f) → Fin ys (news ++ tl)) :
    CompRestP prog w A h₀ L m env elt x x₂ scope cl s S P Fin bs.length 0 [] news := by
  have key : ∀ k i ys tl, i + k = bs.length → Apart news tl → All2 (Out tl) ys ((bs.take i).map f) → CompRestP prog w A h₀ L m env elt x x₂ scope cl s S P Fin k i ys (news ++ tl) := by
    intro k
    induction k with
    | zero =>
      intro i ys tl hi ha hys
      refine CompRestP.zero (fin ys tl ha ?_)
      rw [List.take_of_length_le (by omega)] at hys
      exact hys
    | succ k ih =>
      intro i ys tl hi ha hys
      refine CompRestP.succ ?_
      intro v hPv
      obtain ⟨b, t, nt, v₁, v₂, hb, rfl, ht, hsrc⟩ := hP i v (by omega) hPv
      refine ⟨t, _, v₁, v₂, nt, rfl, List.mem_append_left _ ht, rfl, rfl, ?_⟩
      intro I oI C oC D m₂ h tk E' hns hx hx₂ F N off hne
      refine wpAny_mono (elem v₁ v₂ b hsrc (List.mem_of_getElem? hb) tl ys I oI C oC D m₂ h tk E' ha hns hx hx₂ F N) ?_ fun _ _ e => e
      rintro y s' ⟨h', tk', tl', rfl, F', N', ha', hout⟩
      refine ⟨h', tk', news ++ (tl ++ tl'), rfl, F', ?_, ?_, hS _, ?_⟩
      · intro p hp
        refine N' p ?_
        simp only [List.cons_append, List.append_assoc] at hp ⊢
        exact hp
      · have := off3_app off ha'
        rw [List.append_assoc] at this
        exact this
      · refine ih (i + 1) (ys ++ [y]) (tl ++ tl') (by omega) (ha.app (ha'.sub fun p hp => .tail _ (.tail _ (.tail _ (List.mem_append_left _ hp))))) ?_
        have e : (bs.take (i + 1)).map f = (bs.take i).map f ++ [f b] := by rw [List.take_add_one, hb]; simp
        rw [e]
        exact (hys.mono fun _ _ => hmono _ _ _ _ fun p hp => List.mem_append_left _ hp).snoc hout
  have := key bs.length 0 [] [] (by omega) Apart.nil (by simpa using All2.nil)
  simpa using this
end
end Mine
end
section
open PySem PySem.W PyProof.Rows PySem.Calls
namespace Mine
local macro_rules | `(tactic| walk_at "call ref") => `(tactic| ((with_reducible show wpAny _ _ (PySem.call (Value.ref 115) _ _) _ _ _); refine Mine.stopped ?_))
local macro_rules | `(tactic| walk_at "eval ListComp") => `(tactic| ((with_reducible show wpAny _ _ (PySem.eval (PySem.Expr.ListComp _ _ _ _) _) _ _ _); refine Mine.stopped ?_))
def MadeIs (news : List (Addr × Obj)) (v : Value) (rs : List Row) : Prop := ∃ a n vs, v = .ref a ∧ (a, listOf vs.toArray n) ∈ news ∧ All2 (RowIs news) vs rs
def DrawnAll (news : List (Addr × Obj)) (v : Value) (rs : List Row) : Prop := ∃ a n vs, v = .ref a ∧ (a, listOf vs.toArray n) ∈ news ∧ All2 (DrawnIs news) vs rs
theorem off1_mem {D : Addr} : ∀ {l : List (Addr × Obj)}, LCg.Off1 D l → ∀ p ∈ l, p.1 ≠ D
  | [], _, _, h => nomatch h
  | _ :: _, x, p, h => by
    rcases List.mem_cons.mp h with rfl | h
    · exact x.1
    · exact off1_mem x.2 p h
variable {w : World} {mean : ExcName → Option Value} {mg mb : Str → Option Value}
theorem made_ctr {dp un : Nat} {gd : Option (List Code)} {cn : Str} {cs : Scope} {a : Addr} {ccd : Value} {outer : List Env} {A₀ : Around} {base h₀ : Heap} {L : Addr} {m : Str → Option Value} {news : List (Addr × Obj)} {s : Shared} {dv : Value} {rs : List Row}
    {Q E : Value → Shared → Prop}
    (B : Below A₀ base outer h₀) (F : Fr h₀ L s.heap m) (X : (hd.heap_39 w.params).In h₀) (N : News h₀ L s.heap news) (T : Top topProg LO mean mg mb h₀) (hk : cs.kind = .function)
    (hd : DrawnAll news dv rs) (hro : ∀ r ∈ rs, RowOk r) (hlen : rs.length ≤ 7) (hdp : dp + 30 < recursionLimit) (hun : un + 200 < cLine)
    (ret : ∀ r tl h' tk, Fr h₀ L h' m → News h₀ L h' (news ++ tl) → Apart news tl → MadeIs tl r rs → Q r { s with heap := h', toks := tk }) :
    wpAny (model PySem.Challenge.rw_pg0051_01.row.prog w) (topO dp un gd cn cs L a ccd outer) (call (.ref 120) [dv]) Q E s := by
  obtain ⟨da, dn, vs, rfl, hda, hds⟩ := hd
  w_top off; revert X; k_fill; intro X
  refine wpAny_call ?_
  k_dflt ktr_enter
  k_steps
  refine unstop ?_
  rename Fr _ _ _ _ => F1
  rename News _ _ _ _ => N1
  rename (hd.heap_39 w.params).In _ => X1
  rename Below _ _ _ _ => B1
  rename Top _ _ _ _ _ _ => T1
  obtain ⟨m1, hm1, F2⟩ : ∃ m1 : Str → Option Value, m1 "drawn" = some (.ref da) ∧ Fr _ _ _ m1 := ⟨_, rfl, F1⟩
  clear F1
  have hvl := hds.length
  k_dflt (refine LCg.ListComp_U (F₀ := F2) (by with_unfolding_all rfl) (by decide) (by rfl) (by decide) (by rfl) ?_)
  refine ld F2 hm1 ?_
  refine LCg.CompSrc.ledger rfl F2 N1 hda (by rw [List.size_toArray, sizeLine_eq]; omega) ?_
  intro g2
  have e9 : vs.toArray.size = rs.length := by rw [List.size_toArray]; exact hvl
  rw [e9]
  clear N1 F2
  refine comp_all id (fun l v r => RowIs l v r) (fun v r => DrawnIs news v r) (fun _ _ _ _ h => RowIs.mono h) (fun tl => .inr ⟨_, List.mem_append_left _ hda, rfl, _, rfl⟩) ?_ ?_ ?_
  · intro i v hi hv
    exact hds.get' (by simpa using hv)
  · intro v r hv hr tl ys I oI C oC D m₂ h2 tk2 E' ha hns hx F3 N3
    have hro' := hro r hr
    obtain ⟨ra, rn, cvs, rfl, hra, hcs⟩ := hv
    have hcl := hcs.length
    have hrl := hro'.1
    k_steps
    refine unstop ?_
    rename Fr _ _ _ _ => F4
    rename News _ _ _ _ => N4
    k_dflt (refine LCp.ListComp_P (F₀ := F4) (by with_unfolding_all rfl) (by decide) (by rfl) (by decide) (by rfl) (by rfl) (by decide) ?_)
    refine LCgL.ld_own N4 (.tail _ (.head _)) hns hx ?_
    refine LCp.SrcLP.ledger rfl F4 N4 (.tail _ (.tail _ (.tail _ (List.mem_append_left _ hra)))) (by rw [List.size_toArray, sizeLine_eq]; omega) ?_
    intro g3
    have e8 : cvs.toArray.size = r.length := by rw [List.size_toArray]; exact hcl
    rw [e8]
    clear F4 N4
    refine comp_pairs id (fun l v c => Nest l c.1 v c.2) (fun v₁ v₂ c => (∃ t, v₁ = .int (c.1 : Int) t) ∧ ∃ t, v₂ = .int c.2 t) (fun _ _ _ _ h => Nest.mono h) (fun tl2 => .inr ⟨_, List.mem_append_left _ (.tail _ (.tail _ (.tail _ (List.mem_append_left _ hra)))), rfl, _, rfl⟩) ?_ ?_ ?_
    · intro i v hi hv
      obtain ⟨c, hc, T', n', t1, t2, rfl, hT⟩ := hcs.get' (i := i) (a := v) (by simpa using hv)
      exact ⟨c, T', n', _, _, hc, rfl, .tail _ (.tail _ (.tail _ (List.mem_append_left _ hT))), ⟨_, rfl⟩, ⟨_, rfl⟩⟩
    · rintro v₁ v₂ c ⟨⟨t1, rfl⟩, t2, rfl⟩ hcm tl2 ys2 I2 oI2 C2 oC2 D2 m3 h3 tk3 E2 ha2 hns2 hx1 hx2 F5 N5
      k_steps
      refine unstop ?_
      refine nest_ctr B1 F5 X1 N5 T1 rfl (hro'.2 c hcm) ?_ ?_ ?_
      · show dp + 1 + 20 < recursionLimit
        omega
      · show un + 3 + 100 < cLine
        omega
      intro y tl3 h4 tk4 F6 N6 hlt hn
      k_unfold
      exact ⟨_, _, tl3, rfl, F6, N6, Apart.of_lt hlt, Nest.mono (fun p hp => List.mem_append_right _ hp) hn⟩
    · intro ys2 tl2 ha2 hys2
      intro D2 h3 tk3 F5 N5 off2
      dsimp only
      k_steps
      have hyl := hys2.length
      rw [List.length_map] at hyl
      refine kde_tupleOf (zs := ys2) F5 N5 (News.isList N5 (.head _)) (by rw [List.size_toArray]; omega) (by simp) ?_
      intro T' h4 F6 N6 l6
      k_unfold
      refine ⟨_, _, tl2 ++ [(T', tupO ys2 0)], rfl, F6, ?_, ?_, ?_⟩
      · intro p hp
        refine N6 p ?_
        simp only [List.mem_append, List.mem_cons, List.not_mem_nil, or_false] at hp ⊢
        rcases hp with hp | hp | hp
        · exact .inr (.inr (.inl hp))
        · exact .inr (.inr (.inr hp))
        · exact .inl hp
      · refine ha2.app ?_
        intro q hq p hp
        rw [List.mem_singleton.mp hp]
        exact Nat.ne_of_lt (l6 q (.tail _ (List.mem_append_left _ hq)))
      · refine ⟨T', 0, ys2, rfl, List.mem_append_right _ (List.mem_append_right _ (.head _)), ?_⟩
        rw [List.map_id] at hys2
        exact hys2.mono fun _ _ => Nest.mono fun p hp => List.mem_append_right _ (List.mem_append_left _ hp)
  · intro ys tl ha hys
    intro D h2 tk2 F3 N3 off
    dsimp only
    k_steps
    rename Fr _ _ _ _ => F4
    rename News _ _ _ _ => N4
    rw [List.map_id] at hys
    refine ret _ (tl ++ [(D, LCg.lst ys)]) _ _ F4 ?_ ?_ ⟨D, _, ys, rfl, List.mem_append_right _ (.head _), hys.mono fun _ _ => RowIs.mono fun p hp => List.mem_append_left _ hp⟩
    · intro p hp
      refine N4 p ?_
      simp only [List.mem_append, List.mem_cons, List.not_mem_nil, or_false] at hp ⊢
      rcases hp with hp | hp | hp
      · exact .inr (.inl hp)
      · exact .inr (.inr hp)
      · exact .inl hp
    · refine ha.app ?_
      intro q hq p hp
      rw [List.mem_singleton.mp hp]
      exact off1_mem off q (List.mem_append_left _ hq)
end Mine
end
section
open PySem PySem.W PyProof.Rows PySem.Calls
namespace Mine
local macro_rules | `(tactic| walk_at "eval ListComp") => `(tactic| ((with_reducible show wpAny _ _ (PySem.eval (PySem.Expr.ListComp _ _ _ _) _) _ _ _); refine Mine.stopped ?_))
local macro_rules | `(tactic| walk_at "exec Assign cons ListComp") => `(tactic| ((with_reducible show wpAny _ _ (PySem.exec (PySem.Stmt.Assign _ (PySem.Expr.ListComp _ _ _ _) _) _) _ _ _); refine Mine.stopped ?_))
local macro_rules | `(tactic| walk_at "CompSrc") => `(tactic| (refine Mine.stopped ?_))
theorem elem_new {γ : Type} {h₀ h' : Heap} {L D : Addr} {m : Str → Option Value} {Out : List (Addr × Obj) → Value → γ → Prop} {s : Shared} {all tl jk : List (Addr × Obj)} {c : γ} {o : Obj} {tk : Nat}
    (F : Fr h₀ L h' m) (N : News h₀ L h' ((D, o) :: jk)) (hj : ∀ p ∈ all, p ∈ jk) (hne : ∀ q ∈ all, q.1 ≠ D) (hout : Out (tl ++ [(D, o)]) (.ref D) c) : ElemOut h₀ L m Out s all tl c (.ref D) { s with heap := h', toks := tk } := by
  refine ⟨_, _, [(D, o)], rfl, F, fun p hp => ?_, fun q hq p hp => ?_, hout⟩
  · refine N p ?_
    rcases List.mem_append.mp hp with hp | hp
    · exact .tail _ (hj p hp)
    · rw [List.mem_singleton.mp hp]; exact .head _
  · rw [List.mem_singleton.mp hp]
    exact hne q hq
theorem cellIs_mk {l : List (Addr × Obj)} {D : Addr} {n : Nat} {t t' : Tok} {f k : Int} (h0 : 0 ≤ f) (hm : (D, tupO [.int f t, .int k t'] n) ∈ l) : CellIs l (.ref D) (f.toNat, k) :=
  ⟨D, n, t, t', rfl, by rw [Int.toNat_of_nonneg h0]; exact hm⟩
theorem all2_cells {γ : Type} {l : List (Addr × Obj)} : ∀ {ys : List Value} {us : List γ}, All2 (fun v _ => ∃ c : Nat × Int, c.1 ≤ 2 ∧ CellIs l v c) ys us → ∃ row : Row, All2 (CellIs l) ys row ∧ ∀ c ∈ row, c.1 ≤ 2
  | _, _, .nil => ⟨[], .nil, fun _ h => nomatch h⟩
  | _, _, .cons ⟨c, h1, h2⟩ y => by
    obtain ⟨row, hr, hb⟩ := all2_cells y
    refine ⟨c :: row, .cons h2 hr, fun d hd => ?_⟩
    rcases List.mem_cons.mp hd with rfl | hd
    · exact h1
    · exact hb d hd
variable {w : World} {mean : ExcName → Option Value} {mg mb : Str → Option Value}
theorem cells_ctr {dp un : Nat} {gd : Option (List Code)} {cn : Str} {cs : Scope} {a : Addr} {ccd : Value} {outer : List Env} {A₀ : Around} {base h₀ : Heap} {L : Addr} {m : Str → Option Value} {news : List (Addr × Obj)} {s : Shared} {x : Int} {t1 : Tok}
    {Q E : Value → Shared → Prop}
    (B : Below A₀ base outer h₀) (F : Fr h₀ L s.heap m) (X : (hd.heap_39 w.params).In h₀) (N : News h₀ L s.heap news) (T : Top topProg LO mean mg mb h₀) (hk : cs.kind = .function)
    (h0 : 0 ≤ x) (h6 : x < 1000000) (hdp : dp + 20 < recursionLimit) (hun : un + 100 < cLine)
    (ret : ∀ r tl h' tk, Fr h₀ L h' m → News h₀ L h' (news ++ tl) → Apart news tl → (∃ row, RowOk row ∧ DrawnIs tl r row) → Q r { s with heap := h', toks := tk }) :
    wpAny (model PySem.Challenge.rw_pg0051_01.row.prog w) (topO dp un gd cn cs L a ccd outer) (call (.ref 108) [.int x t1]) Q E s := by
  w_top off; revert X; k_fill; intro X
  refine wpAny_call ?_
  k_dflt (refine' code_defC ?k1 ?k2 ?k3 ?k4 ?k5 ?kA ?kF ?kK ?k6 ?k7 ?k8 ?k9 ?kB ?kD ?_ ?c2 ?c3 ?c4; (case kA => exact rfl); (case kF => exact rfl); (case kK => exact hk); (case k1 => exact B); (case k2 => exact F); (case k3 => exact X); (case k4 => exact N); (case k5 => exact T); (case k6 => k_is); (case k7 => k_is); (case k8 => show dp < recursionLimit; omega); (case k9 => exact BindsTo.of_eq rfl); (case kB => exact rfl); (case kD => decide +kernel); (case c2 => exact rfl); (case c3 => exact rfl); (case c4 => exact rfl))
  intro g' L' h' tk' cells' FG' F' N' Y' B' X' T' l1
  have l2 : ∀ p ∈ news, p.1 < L' := l1
  clear l1
  k_cells Y'; (try simp only [List.cons_append, List.nil_append] at N'); (try dsimp only); (try k_fold)
  k_steps
  refine unstop ?_
  rename Fr _ _ _ _ => F1
  k_dflt (refine LCg.Assign_ListComp_U (F₀ := F1) (by rfl) (by with_unfolding_all rfl) (by with_unfolding_all rfl) (by decide) (by rfl) (by decide) (by rfl) (by rfl) (by rfl) ?_)
  k_steps
  refine unstop ?_
  rename Fr _ _ _ _ => F1
  rename News _ _ _ _ => N1
  refine LCg.CompSrc.range (n := 3) rfl F1 N1 (by assumption) (by decide) (by decide) (by decide) ?_
  intro g2
  clear F1 N1
  refine comp_all (bs := [0, 1, 2]) (fun _ => ()) (fun l v _ => ∃ n t, v = .int n t ∧ 0 ≤ n ∧ n < 12) (fun v (b : Int) => ∃ t, v = .int b t) (fun _ _ _ _ _ h => h) (fun tl => trivial) ?_ ?_ ?_
  · rintro i v hi ⟨t, rfl⟩
    have hi' : i = 0 ∨ i = 1 ∨ i = 2 := by simp at hi; omega
    rcases hi' with rfl | rfl | rfl <;> exact ⟨_, rfl, _, rfl⟩
  · rintro v b ⟨t, rfl⟩ hb tl ys I oI C oC D m₂ h2 tk2 E' ha hns hx F3 N3
    have hb' : b = 0 ∨ b = 1 ∨ b = 2 := by simpa using hb
    rcases hb' with rfl | rfl | rfl <;>
    · k_steps
      exact ⟨_, _, [], rfl, F3, news_app_nil N3, Apart.nil, _, _, rfl, Int.fmod_nonneg_of_pos _ (by decide), Int.fmod_lt_of_pos _ (by decide)⟩
  · intro ys tl ha hys
    intro D h2 tk2 F3 N3 off
    dsimp only
    k_steps
    refine unstop ?_
    rename Fr _ _ _ _ => F1
    rename News _ _ _ _ => N1
    have hyl := hys.length
    k_dflt (refine LCg.ListComp_U (F₀ := F1) (by with_unfolding_all rfl) (by decide) (by rfl) (by decide) (by rfl) ?_)
    k_steps
    refine unstop ?_
    refine LCg.CompSrc.ledger rfl F1 N1 (.head _) (by rw [List.size_toArray, sizeLine_eq]; simp at hyl; omega) ?_
    intro g3
    have e8 : ys.toArray.size = ([0, 1, 2] : List Int).length := by rw [List.size_toArray]; simpa using hyl
    rw [e8]
    clear F1 N1
    refine comp_all (bs := [0, 1, 2]) (fun _ => ()) (fun l v _ => ∃ c : Nat × Int, c.1 ≤ 2 ∧ CellIs l v c) (fun v (b : Int) => ∃ n t, v = .int n t ∧ 0 ≤ n ∧ n < 12) (fun _ _ _ _ h x => by obtain ⟨c, h1, h2⟩ := x; exact ⟨c, h1, h2.mono h⟩) (fun tl => .inr ⟨_, List.mem_append_left _ (.head _), rfl, _, rfl⟩) ?_ ?_ ?_
    · intro i v hi hv
      obtain ⟨b, hb, hr⟩ := hys.get' (i := i) (a := v) (by simpa using hv)
      exact ⟨_, List.getElem?_eq_getElem hi, hr⟩
    · rintro v b ⟨n, t, rfl, hn0, hn12⟩ hb tl2 ys2 I oI C oC D2 m₂ h3 tk3 E' ha2 hns hx F5 N5
      k_steps
      rename News _ _ _ _ => N6
      rename Fr _ _ _ _ => F6
      rename (_ ∧ _ ∧ _ ∧ _ ∧ AllLt _ _) => l6
      have e0 : 0 ≤ n.fmod 3 := Int.fmod_nonneg_of_pos _ (by decide)
      have e1 : n.fmod 3 < 3 := Int.fmod_lt_of_pos _ (by decide)
      refine elem_new F6 N6 (fun p hp => .tail _ hp) ?hne ⟨((n.fmod 3).toNat, [500, 1000, -7, x].getD (n.fdiv 3).toNat 0), by show (n.fmod 3).toNat ≤ 2; omega, cellIs_mk e0 (List.mem_append_right _ (.head _))⟩
      case hne =>
        intro q hq
        rcases List.mem_cons.mp hq with rfl | hq
        · exact Nat.ne_of_lt l6.2.1
        · rcases List.mem_cons.mp hq with rfl | hq
          · exact Nat.ne_of_lt l6.2.2.1
          · rcases List.mem_cons.mp hq with rfl | hq
            · exact Nat.ne_of_lt l6.2.2.2.1
            · exact Nat.ne_of_lt (tb_ltOf l6.2.2.2.2 q hq)
    · intro ys2 tl2 ha2 hys2
      intro D2 h3 tk3 F5 N5 off2
      dsimp only
      k_steps
      rename Fr _ _ _ _ => F4
      rename News _ _ _ _ => N4
      obtain ⟨row, hrow, hlen⟩ := all2_cells hys2
      refine ret _ (tl2 ++ [(D2, LCg.lst ys2)]) _ _ F4 ?_ ?_ ⟨row, ⟨by have := hrow.length; have := hys2.length; simp at this; omega, hlen⟩, D2, _, ys2, rfl, List.mem_append_right _ (.head _), hrow.mono fun _ _ => CellIs.mono fun p hp => List.mem_append_left _ hp⟩
      · intro p hp
        refine N4 p ?_
        simp only [List.mem_append, List.mem_cons, List.not_mem_nil, or_false] at hp ⊢
        rcases hp with hp | hp | hp
        · exact .inr (.inl (.inr (.inl (.inr hp))))
        · exact .inr (.inr hp)
        · exact .inl hp
      · refine Apart.app (ha2.sub fun p hp => .tail _ (List.mem_append_left _ (.tail _ hp))) ?_
        intro q hq p hp
        rw [List.mem_singleton.mp hp]
        exact off1_mem off2 q (List.mem_append_left _ (.tail _ (List.mem_append_left _ (.tail _ hq))))
end Mine
end
section
open PySem PySem.W PyProof.Rows PySem.Calls
namespace Mine
local macro_rules | `(tactic| walk_at "pad") => `(tactic| fail "pad")
local macro_rules | `(tactic| walk_at "eval ListComp") => `(tactic| ((with_reducible show wpAny _ _ (PySem.eval (PySem.Expr.ListComp _ _ _ _) _) _ _ _); refine Mine.stopped ?_))
local macro_rules | `(tactic| walk_at "exec Assign cons ListComp") => `(tactic| ((with_reducible show wpAny _ _ (PySem.exec (PySem.Stmt.Assign _ (PySem.Expr.ListComp _ _ _ _) _) _) _ _ _); refine Mine.stopped ?_))
local macro_rules | `(tactic| walk_at "CompSrc") => `(tactic| (refine Mine.stopped ?_))
def KeyGood (k : Int × Int) : Prop := (0 ≤ k.1 ∧ k.1 < 3) ∧ (k.2 = 1 ∨ k.2 = -1)
theorem all2_keys {γ : Type} {l : List (Addr × Obj)} : ∀ {ys : List Value} {us : List γ}, All2 (fun v _ => ∃ k : Int × Int, KeyGood k ∧ KeyIs l v k) ys us → ∃ ks : List (Int × Int), All2 (KeyIs l) ys ks ∧ ∀ k ∈ ks, KeyGood k
  | _, _, .nil => ⟨[], .nil, fun _ h => nomatch h⟩
  | _, _, .cons ⟨c, h1, h2⟩ y => by
    obtain ⟨row, hr, hb⟩ := all2_keys y
    refine ⟨c :: row, .cons h2 hr, fun d hd => ?_⟩
    rcases List.mem_cons.mp hd with rfl | hd
    · exact h1
    · exact hb d hd
theorem keyIs_mk {l : List (Addr × Obj)} {D : Addr} {n : Nat} {t t' : Tok} {f k : Int} (hm : (D, tupO [.int f t, .int k t'] n) ∈ l) : KeyIs l (.ref D) (f, k) := ⟨D, n, t, t', rfl, hm⟩
variable {w : World} {mean : ExcName → Option Value} {mg mb : Str → Option Value}
theorem keys_ctr {dp un : Nat} {gd : Option (List Code)} {cn : Str} {cs : Scope} {a : Addr} {ccd : Value} {outer : List Env} {A₀ : Around} {base h₀ : Heap} {L : Addr} {m : Str → Option Value} {news : List (Addr × Obj)} {s : Shared} {x : Int} {t1 : Tok}
    {Q E : Value → Shared → Prop}
    (B : Below A₀ base outer h₀) (F : Fr h₀ L s.heap m) (X : (hd.heap_39 w.params).In h₀) (N : News h₀ L s.heap news) (T : Top topProg LO mean mg mb h₀) (hk : cs.kind = .function)
    (h0 : 0 ≤ x) (h6 : x < 13000000) (hdp : dp + 20 < recursionLimit) (hun : un + 100 < cLine)
    (ret : ∀ r tl h' tk, Fr h₀ L h' m → News h₀ L h' (news ++ tl) → Apart news tl → (∃ ks : List (Int × Int), (∀ k ∈ ks, KeyGood k) ∧ ks.length ≤ 3 ∧ KeysIs tl r ks) → Q r { s with heap := h', toks := tk }) :
    wpAny (model PySem.Challenge.rw_pg0051_01.row.prog w) (topO dp un gd cn cs L a ccd outer) (call (.ref 125) [.int x t1]) Q E s := by
  w_top off; revert X; k_fill; intro X
  refine wpAny_call ?_
  k_dflt (refine' code_defC ?k1 ?k2 ?k3 ?k4 ?k5 ?kA ?kF ?kK ?k6 ?k7 ?k8 ?k9 ?kB ?kD ?_ ?c2 ?c3 ?c4; (case kA => exact rfl); (case kF => exact rfl); (case kK => exact hk); (case k1 => exact B); (case k2 => exact F); (case k3 => exact X); (case k4 => exact N); (case k5 => exact T); (case k6 => k_is); (case k7 => k_is); (case k8 => show dp < recursionLimit; omega); (case k9 => exact BindsTo.of_eq rfl); (case kB => exact rfl); (case kD => decide +kernel); (case c2 => exact rfl); (case c3 => exact rfl); (case c4 => exact rfl))
  intro g' L' h' tk' cells' FG' F' N' Y' B' X' T' l1
  have l2 : ∀ p ∈ news, p.1 < L' := l1
  clear l1
  k_cells Y'; (try simp only [List.cons_append, List.nil_append] at N'); (try dsimp only); (try k_fold)
  k_steps
  refine unstop ?_
  rename Fr _ _ _ _ => F1
  k_dflt (refine LCg.Assign_ListComp_U (F₀ := F1) (by rfl) (by with_unfolding_all rfl) (by with_unfolding_all rfl) (by decide) (by rfl) (by decide) (by rfl) (by rfl) (by rfl) ?_)
  k_steps
  refine unstop ?_
  rename Fr _ _ _ _ => F1
  rename News _ _ _ _ => N1
  rename IsRange _ _ _ _ _ _ _ _ => hR
  have hx0 : 0 ≤ x.fmod 3 := Int.fmod_nonneg_of_pos _ (by decide)
  have hx3 : x.fmod 3 < 3 := Int.fmod_lt_of_pos _ (by decide)
  obtain ⟨n, hn, hn3, hsm, hrs⟩ : ∃ n : Nat, n ≤ 3 ∧ 1 ≤ n ∧ Builtin.Range.small 0 (1 + x.fmod 3) 1 = true ∧ Builtin.Range.rangeSize 0 (1 + x.fmod 3) 1 = ((n : Nat) : Int) := by
    have h3 : x.fmod 3 = 0 ∨ x.fmod 3 = 1 ∨ x.fmod 3 = 2 := by omega
    rcases h3 with e | e | e <;> rw [e]
    · exact ⟨1, by decide, by decide, by decide, by decide⟩
    · exact ⟨2, by decide, by decide, by decide, by decide⟩
    · exact ⟨3, by decide, by decide, by decide, by decide⟩
  refine LCg.CompSrc.range (n := n) rfl F1 N1 hR hsm hrs (by rw [sizeLine_eq]; omega) ?_
  intro g2
  clear F1 N1
  have ebs : ((List.range n).map (fun i : Nat => (i : Int))).length = n := by simp
  rw [← ebs]
  refine comp_all (bs := (List.range n).map (fun i : Nat => (i : Int))) (fun _ => ()) (fun l v _ => ∃ n t, v = .int n t ∧ 0 ≤ n ∧ n < 6) (fun v (b : Int) => ∃ t, v = .int b t) (fun _ _ _ _ _ h => h) (fun tl => trivial) ?_ ?_ ?_
  · rintro i v hi ⟨t, rfl⟩
    rw [ebs] at hi
    exact ⟨(i : Int), by simp [hi], t, by rw [Int.zero_add]⟩
  · rintro v b ⟨t, rfl⟩ hb tl ys I oI C oC D m₂ h2 tk2 E' ha hns hx F3 N3
    have hb' : b = 0 ∨ b = 1 ∨ b = 2 := by
      obtain ⟨j, hj, rfl⟩ := List.mem_map.mp hb
      have := List.mem_range.mp hj
      omega
    rcases hb' with rfl | rfl | rfl <;>
    · k_steps
      exact ⟨_, _, [], rfl, F3, news_app_nil N3, Apart.nil, _, _, rfl, Int.fmod_nonneg_of_pos _ (by decide), Int.fmod_lt_of_pos _ (by decide)⟩
  · intro ys tl ha hys
    intro D h2 tk2 F3 N3 off
    dsimp only
    k_steps
    refine unstop ?_
    rename Fr _ _ _ _ => F1
    rename News _ _ _ _ => N1
    have hyl := hys.length
    rw [List.length_map, ebs] at hyl
    k_dflt (refine LCg.ListComp_U (F₀ := F1) (by with_unfolding_all rfl) (by decide) (by rfl) (by decide) (by rfl) ?_)
    k_steps
    refine unstop ?_
    refine LCg.CompSrc.ledger rfl F1 N1 (.head _) (by rw [List.size_toArray, sizeLine_eq]; omega) ?_
    intro g3
    have e8 : ys.toArray.size = ((List.range n).map (fun i : Nat => (i : Int))).length := by rw [List.size_toArray, ebs]; exact hyl
    rw [e8]
    clear F1 N1
    refine comp_all (bs := (List.range n).map (fun i : Nat => (i : Int))) (fun _ => ()) (fun l v _ => ∃ k : Int × Int, KeyGood k ∧ KeyIs l v k) (fun v (b : Int) => ∃ n t, v = .int n t ∧ 0 ≤ n ∧ n < 6) (fun _ _ _ _ h x => by obtain ⟨c, h1, h2⟩ := x; exact ⟨c, h1, h2.mono h⟩) (fun tl => .inr ⟨_, List.mem_append_left _ (.head _), rfl, _, rfl⟩) ?_ ?_ ?_
    · intro i v hi hv
      obtain ⟨b, hb, hr⟩ := hys.get' (i := i) (a := v) (by simpa using hv)
      exact ⟨_, List.getElem?_eq_getElem hi, hr⟩
    · rintro v b ⟨k, t, rfl, hn0, hn12⟩ hb tl2 ys2 I oI C oC D2 m₂ h3 tk3 E' ha2 hns hx F5 N5
      k_steps
      rename News _ _ _ _ => N6
      rename Fr _ _ _ _ => F6
      rename (_ ∧ _ ∧ _ ∧ AllLt _ _) => l6
      have e0 : 0 ≤ k.fmod 3 := Int.fmod_nonneg_of_pos _ (by decide)
      have e1 : k.fmod 3 < 3 := Int.fmod_lt_of_pos _ (by decide)
      have e2 : k.fdiv 3 = 0 ∨ k.fdiv 3 = 1 := by
        have := fdiv_fmod_facts k 3
        omega
      refine elem_new F6 N6 (fun p hp => hp) ?hne ⟨(k.fmod 3, 1 - k.fdiv 3 * 2), ⟨⟨e0, e1⟩, by rcases e2 with e | e <;> simp [e]⟩, keyIs_mk (List.mem_append_right _ (.head _))⟩
      case hne =>
        intro q hq
        rcases List.mem_cons.mp hq with rfl | hq
        · exact Nat.ne_of_lt l6.1
        · rcases List.mem_cons.mp hq with rfl | hq
          · exact Nat.ne_of_lt l6.2.1
          · rcases List.mem_cons.mp hq with rfl | hq
            · exact Nat.ne_of_lt l6.2.2.1
            · exact Nat.ne_of_lt (tb_ltOf l6.2.2.2 q hq)
    · intro ys2 tl2 ha2 hys2
      intro D2 h3 tk3 F5 N5 off2
      dsimp only
      k_steps
      rename Fr _ _ _ _ => F4
      rename News _ _ _ _ => N4
      obtain ⟨ks, hks, hgood⟩ := all2_keys hys2
      refine ret _ (tl2 ++ [(D2, LCg.lst ys2)]) _ _ F4 ?_ ?_ ⟨ks, hgood, by have := hks.length; have := hys2.length; rw [List.length_map, ebs] at this; omega, D2, _, ys2, rfl, List.mem_append_right _ (.head _), hks.mono fun _ _ => KeyIs.mono fun p hp => List.mem_append_left _ hp⟩
      · intro p hp
        refine N4 p ?_
        simp only [List.mem_append, List.mem_cons, List.not_mem_nil, or_false] at hp ⊢
        rcases hp with hp | hp | hp
        · exact .inr (.inl (.inr (.inl (.inr hp))))
        · exact .inr (.inr hp)
        · exact .inl hp
      · refine Apart.app (ha2.sub fun p hp => .tail _ (List.mem_append_left _ (.tail _ hp))) ?_
        intro q hq p hp
        rw [List.mem_singleton.mp hp]
        exact off1_mem off2 q (List.mem_append_left _ (.tail _ (List.mem_append_left _ (.tail _ hq))))
end Mine
end
section
open PySem PySem.W PyProof.Rows PySem.Calls
namespace Mine
section
variable {prog : Program} {w : World} {A : Around} {E : Value → Shared → Prop} {s : Shared} {env : Env} {Q : Flow → Shared → Prop}

/-- one turn of a for, over any invariant of the state -/
def TurnOk (prog : Program) (w : World) (A : Around) (env : Env) (target : PySem.Expr) (body : List Stmt) (Q : Flow → Shared → Prop) (E : Value → Shared → Prop) (J : Nat → Shared → Prop) (it : Value) : Prop :=
  ∀ n s, J n s → wpAny (model prog w) A (pyNext it) (fun r s₁ => match r with
    | none => Q .next s₁
    | some v => wpAny (model prog w) A (letOwnedTupleGo target it v) (fun _ s₁' => wpAny (model prog w) A (assign target env v) (fun _ s₂ => wpAny (model prog w) A (execs body env) (fun f s₃ => match f with
        | .next | .cont => ∃ m, m < n ∧ J m s₃
        | .brk => Q .next s₃
        | .ret v => Q (.ret v) s₃) E s₂) E s₁') E s₁) E s

theorem For_any {target iter : PySem.Expr} {body : List Stmt} {pos : Pos} (hE : PassesOwn (model prog w) A env E)
    (h : wpAny (model prog w) A (eval iter env) (fun xv s₁ => wpAny (model prog w) A (pyIter xv) (fun it s₂ => ∃ (J : Nat → Shared → Prop) (n : Nat), J n s₂ ∧ TurnOk prog w A env target body Q E J it) E s₁) E s)
    (hs : ∀ x, foldedSetIterable iter env x = pure x := by intro _; rfl) :
    wpAny (model prog w) A (exec (.For target iter body [] pos) env) Q E s := by
  refine wpAny_For (wpAny_mono h (fun xv s₁ h₁ => wpAny_mono h₁ (fun it s₂ h₂ => ?_) fun _ _ e => e) fun _ _ e => e) hs
  obtain ⟨J, n, hJ, turn⟩ := h₂
  refine codeAny_forLoop_any J (fun n s hJ => ?_) n hJ
  refine wpAny_mono (turn n s hJ) (fun r s₁ h₁ => ?_) hE
  cases r with
  | none => exact wpAny_execs_nil h₁
  | some v =>
    refine wpAny_mono h₁ (fun _ s₁' h₁' => wpAny_mono h₁' (fun _ s₂ h₂ => wpAny_mono h₂ (fun f s₃ h₃ => ?_) hE) hE) hE
    cases f <;> exact h₃

/-- named, so that the walk leaves it -/
def LoopNext (J : Nat → Shared → Prop) (n : Nat) (s : Shared) : Prop := ∃ m, m < n ∧ J m s
theorem While_any {test : PySem.Expr} {body : List Stmt} {pos : Pos} (hE : PassesOwn (model prog w) A env E) (J : Nat → Shared → Prop) (n : Nat) (h0 : J n s)
    (turn : ∀ n s, J n s → wpAny (model prog w) A (isTrue test env (eval test env)) (fun b s₂ => if b then wpAny (model prog w) A (execs body env) (fun f s₃ => match f with
        | .next | .cont => LoopNext J n s₃
        | .brk => Q .next s₃
        | .ret v => Q (.ret v) s₃) E s₂ else Q .next s₂) E s) :
    wpAny (model prog w) A (exec (.While test body [] pos) env) Q E s := by
  refine wpAny_While (codeAny_whileLoop J (fun n s hJ => ?_) n h0)
  refine wpAny_mono (turn n s hJ) (fun b s₂ h₂ => ?_) hE
  cases b with
  | false =>
    rw [if_neg Bool.false_ne_true] at h₂ ⊢
    exact wpAny_execs_nil h₂
  | true =>
    rw [if_pos rfl] at h₂ ⊢
    refine wpAny_mono h₂ (fun f s₃ h₃ => ?_) hE
    cases f <;> exact h₃
end

/-- a frame over a ground that may turn -/
def Gd (w : World) (mean : ExcName → Option Value) (mg mb : Str → Option Value) (A₀ : Around) (base : Heap) (outer : List Env) (g₀ : Heap) (L : Addr) (m : Str → Option Value) (news : List (Addr × Obj)) (h : Heap) : Prop :=
  ∃ h₀, KtsTurn (outer.filterMap (·.frame)) g₀ h₀ ∧ KtsDicts (outer.filterMap (·.frame)) h₀ ∧ Below A₀ base outer h₀ ∧ Fr h₀ L h m ∧ (hd.heap_39 w.params).In h₀ ∧ News h₀ L h news ∧ Top topProg LO mean mg mb h₀

section
variable {w : World} {mean : ExcName → Option Value} {mg mb : Str → Option Value} {A₀ : Around} {base : Heap} {outer : List Env} {g₀ : Heap} {L : Addr} {m : Str → Option Value} {news : List (Addr × Obj)} {h h' : Heap}
theorem Gd.iter {I : Addr} {it it' : Obj} (x : Gd w mean mg mb A₀ base outer g₀ L m ((I, it) :: news) h) (hk : ∀ b o, b ∉ [I] → h.get? b = some o → h'.get? b = some o) (hI : h'.get? I = some it') (off : ∀ p ∈ news, p.1 ≠ I) :
    Gd w mean mg mb A₀ base outer g₀ L m ((I, it') :: news) h' := by
  obtain ⟨h₀, T0, D, B, F, X, N, T⟩ := x
  have z := N _ (.head _)
  refine ⟨h₀, T0, D, B, LCg.fr_but F hk (Ne.symm z.2.1) z.2.2, X, fun p hp => ?_, T⟩
  rcases List.mem_cons.mp hp with rfl | hp
  · exact ⟨hI, z.2⟩
  · have y := N p (.tail _ hp)
    exact ⟨hk _ _ (by simpa using off p hp) y.1, y.2⟩
theorem Gd.sub {news' : List (Addr × Obj)} (x : Gd w mean mg mb A₀ base outer g₀ L m news h) (hs : ∀ p ∈ news', p ∈ news) : Gd w mean mg mb A₀ base outer g₀ L m news' h := by
  obtain ⟨h₀, T0, D, B, F, X, N, T⟩ := x
  exact ⟨h₀, T0, D, B, F, X, fun p hp => N p (hs p hp), T⟩
theorem Gd.map {m' : Str → Option Value} (x : Gd w mean mg mb A₀ base outer g₀ L m news h) (e : m = m') : Gd w mean mg mb A₀ base outer g₀ L m' news h := e ▸ x
end

/-- going down a line from its end, past all that the new one is ahead of -/
def downTo (ah : Nat → Bool) (line : List Nat) : Nat → Nat
  | 0 => 0
  | k + 1 => if ah (line.getD k 0) then downTo ah line k else k + 1
def insStep (ah : Nat → Nat → Bool) (line : List Nat) (i : Nat) : List Nat := line.take (downTo (ah i) line line.length) ++ i :: line.drop (downTo (ah i) line line.length)
def lineOf (ah : Nat → Nat → Bool) (n : Nat) : List Nat := (List.range n).foldl (insStep ah) []
theorem downTo_le (ah : Nat → Bool) (line : List Nat) : ∀ k, downTo ah line k ≤ k
  | 0 => Nat.le_refl _
  | k + 1 => by
    unfold downTo
    split
    · exact Nat.le_succ_of_le (downTo_le ah line k)
    · exact Nat.le_refl _
theorem insStep_length (ah : Nat → Nat → Bool) (line : List Nat) (i : Nat) : (insStep ah line i).length = line.length + 1 := by
  have := downTo_le (ah i) line line.length
  simp only [insStep, List.length_append, List.length_take, List.length_cons, List.length_drop]
  omega
theorem lineOf_succ (ah : Nat → Nat → Bool) (n : Nat) : lineOf ah (n + 1) = insStep ah (lineOf ah n) n := by
  simp [lineOf, List.range_succ]
theorem lineOf_length (ah : Nat → Nat → Bool) : ∀ n, (lineOf ah n).length = n
  | 0 => rfl
  | n + 1 => by rw [lineOf_succ, insStep_length, lineOf_length]
theorem lineOf_mem (ah : Nat → Nat → Bool) : ∀ n i, i ∈ lineOf ah n → i < n
  | 0, i, h => by simp [lineOf] at h
  | n + 1, i, h => by
    rw [lineOf_succ, insStep] at h
    rcases List.mem_append.mp h with h | h
    · exact Nat.lt_succ_of_lt (lineOf_mem ah n i (List.mem_of_mem_take h))
    · rcases List.mem_cons.mp h with rfl | h
      · exact Nat.lt_succ_self _
      · exact Nat.lt_succ_of_lt (lineOf_mem ah n i (List.mem_of_mem_drop h))
end Mine
end
section
open PySem PySem.W PyProof.Rows PySem.Calls
namespace Mine
theorem range_facts {n : Nat} (h : n ≤ 7) : Builtin.Range.small 0 (n : Int) 1 = true ∧ Builtin.Range.rangeSize 0 (n : Int) 1 = ((n : Nat) : Int) := by
  have hn : n = 0 ∨ n = 1 ∨ n = 2 ∨ n = 3 ∨ n = 4 ∨ n = 5 ∨ n = 6 ∨ n = 7 := by omega
  rcases hn with rfl | rfl | rfl | rfl | rfl | rfl | rfl | rfl <;> exact ⟨by decide, by decide⟩

section
variable {prog : Program} {w : World} {mean : ExcName → Option Value} {mg mb : Str → Option Value} {A A₀ : Around} {base g₀ : Heap} {outer : List Env} {L : Addr} {E : Value → Shared → Prop} {s : Shared} {env : Env} {Q : Flow → Shared → Prop} {m : Str → Option Value} {news : List (Addr × Obj)}

/-- the end of a turn over a ground that may turn -/
def GdStep (w : World) (mean : ExcName → Option Value) (mg mb : Str → Option Value) (A₀ : Around) (base : Heap) (outer : List Env) (g₀ : Heap) (L : Addr) (own : List (Addr × Obj)) (J : (Str → Option Value) → List (Addr × Obj) → Prop) (s : Shared) (Q : Flow → Shared → Prop) (f : Flow) (s₃ : Shared) : Prop :=
  match f with
  | .next | .cont => ∃ h tk m' news', s₃ = { s with heap := h, toks := tk } ∧ Gd w mean mg mb A₀ base outer g₀ L m' (own ++ news') h ∧ (∀ p ∈ news', ∀ q ∈ own, p.1 ≠ q.1) ∧ J m' news'
  | .brk => Q .next s₃
  | .ret v => Q (.ret v) s₃

theorem iter_rangeGd {x : Str} {px : Pos} {body : List Stmt} {r : Addr} {n : Nat} {t u v : Tok} (J : Nat → (Str → Option Value) → List (Addr × Obj) → Prop) (hh : A.handled = none) (hn : n ≤ 7) (hR : IsRange s.heap r 0 (n : Int) 1 t u v)
    (G : Gd w mean mg mb A₀ base outer g₀ L m news s.heap) (h0 : J 0 m news)
    (turn : ∀ i I o m' news' h tk t, i < n → J i m' news' → (∀ p ∈ news', p.1 ≠ I) → Gd w mean mg mb A₀ base outer g₀ L m' ((I, o) :: news') h →
      wpAny (model prog w) A (assign (.Name x px) env (.int (i : Int) t)) (fun _ s₂ => wpAny (model prog w) A (execs body env) (GdStep w mean mg mb A₀ base outer g₀ L [(I, o)] (J (i + 1)) s Q) E s₂) E { s with heap := h, toks := tk })
    (done : ∀ m' news' h tk, J n m' news' → Gd w mean mg mb A₀ base outer g₀ L m' news' h → Q .next { s with heap := h, toks := tk }) :
    wpAny (model prog w) A (pyIter (.ref r)) (fun it s₂ => ∃ (J : Nat → Shared → Prop) (n : Nat), J n s₂ ∧ TurnOk prog w A env (.Name x px) body Q E J it) E s := by
  obtain ⟨hsm, hrs⟩ := range_facts hn
  refine wpAny_pyIter_range hR hsm ?_
  rw [hrs]
  have W := Walks.range (prog := prog) (w := w) hh s.heap.objs.size 0 1 n
  refine ⟨fun k s' => ∃ i h tk m' news', s' = { s with heap := h, toks := tk } ∧ i + k = n + 1 ∧ i ≤ n ∧ Gd w mean mg mb A₀ base outer g₀ L m' ((s.heap.objs.size, itR (0 + (i : Int) * 1) ((n : Int) - (i : Int))) :: news') h ∧ (∀ p ∈ news', p.1 ≠ s.heap.objs.size) ∧ J i m' news', n + 1, ?_, ?_⟩
  · obtain ⟨h₀, T0, D, B, F, X, N, T⟩ := G
    refine ⟨0, _, _, m, news, rfl, by omega, Nat.zero_le _, ⟨h₀, T0, D, B, F.push _, X, ?_, T⟩, fun p hp => Nat.ne_of_lt (Heap.lt_size (N p hp).1), h0⟩
    have := N.push F (itR 0 (n : Int))
    simpa [itR] using this
  · intro k s' hJ
    obtain ⟨i, h, tk, m', news', rfl, hik, hin, G', off, hj⟩ := hJ
    have hst : IsRangeIter h s.heap.objs.size (0 + (i : Nat) * 1) ((n : Int) - (i : Nat)) 1 := by
      obtain ⟨h₀, T0, D, B, F, X, N, T⟩ := G'
      exact (N _ (.head _)).1
    by_cases hlt : i < n
    · refine W.item i _ _ _ hlt hst ?_
      rintro v h2 tk2 ⟨t2, rfl⟩ st2 hk2
      refine wpAny_of_eq (rfl : letOwnedTupleGo (.Name x px) (.ref s.heap.objs.size) _ = pure ()) ?_
      have G2 : Gd w mean mg mb A₀ base outer g₀ L m' ((s.heap.objs.size, itR (0 + ((i + 1 : Nat) : Int) * 1) ((n : Int) - ((i + 1 : Nat) : Int))) :: news') h2 := G'.iter hk2 st2 off
      have e : (0 + (i : Int) * 1) = (i : Int) := by omega
      rw [e]
      refine wpAny_mono (turn i _ _ m' news' h2 tk2 t2 hlt hj off G2) (fun _ s₂ h₂ => wpAny_mono h₂ (fun f s₃ h₃ => ?_) fun _ _ e => e) fun _ _ e => e
      have nx : GdStep w mean mg mb A₀ base outer g₀ L [(s.heap.objs.size, itR (0 + ((i + 1 : Nat) : Int) * 1) ((n : Int) - ((i + 1 : Nat) : Int)))] (J (i + 1)) s Q .next s₃ → ∃ m, m < k ∧ ∃ i h tk m' news', s₃ = { s with heap := h, toks := tk } ∧ i + m = n + 1 ∧ i ≤ n ∧ Gd w mean mg mb A₀ base outer g₀ L m' ((s.heap.objs.size, itR (0 + (i : Int) * 1) ((n : Int) - (i : Int))) :: news') h ∧ (∀ p ∈ news', p.1 ≠ s.heap.objs.size) ∧ J i m' news' := by
        rintro ⟨h4, tk4, m4, news4, rfl, G4, off4, hj4⟩
        exact ⟨k - 1, by omega, i + 1, h4, tk4, m4, news4, rfl, by omega, by omega, G4, fun p hp => off4 p hp _ (.head _), hj4⟩
      cases f with
      | next => exact nx h₃
      | cont => exact nx h₃
      | brk => exact h₃
      | ret v => exact h₃
    · have hi : i = n := by omega
      subst hi
      refine W.done _ _ _ hst ?_
      intro h2 tk2 hk2
      obtain ⟨h₀, T0, D, B, F, X, N, T⟩ := G'
      have z := N _ (.head _)
      refine done m' news' h2 tk2 hj ⟨h₀, T0, D, B, LCg.fr_but F hk2 (Ne.symm z.2.1) z.2.2, X, ?_, T⟩
      exact LCg.news_but (fun p hp => N p (.tail _ hp)) hk2 off
end
end Mine
end
section
open PySem PySem.W PyProof.Rows PySem.Calls
namespace Mine
local macro_rules | `(tactic| walk_at "pad") => `(tactic| fail "pad")
local macro_rules | `(tactic| walk_at "call ref") => `(tactic| ((with_reducible show wpAny _ _ (PySem.call (Value.ref 146) _ _) _ _ _); refine Mine.stopped ?_))
local macro_rules | `(tactic| walk_at "exec For Name Call cons nil") => `(tactic| (refine Mine.stopped ?_))
local macro_rules | `(tactic| walk_at "pyIter ref") => `(tactic| (refine Mine.stopped ?_))
local macro_rules | `(tactic| walk_at "exec While BoolOp cons nil") => `(tactic| (refine Mine.stopped ?_))
/-- the order of two rows by their numbers -/
def ahOf (ks : List (Int × Int)) (rs : List Row) (i j : Nat) : Bool := ahead ks (rs.getD i []) (rs.getD j [])
abbrev IntsOf (vs : List Value) (ns : List Nat) : Prop := All2 (fun v (n : Nat) => ∃ t, v = .int (n : Int) t) vs ns
theorem map_three {m : Str → Option Value} {a b c : Str} {va vb vc : Value} (ha : m a = some va) (hb : m b = some vb) (hc : m c = some vc) : m = fun y => if y = a then some va else if y = b then some vb else if y = c then some vc else m y := by
  funext y
  by_cases h1 : y = a
  · simp [h1, ha]
  · by_cases h2 : y = b
    · subst h2; simp [h1, hb]
    · by_cases h3 : y = c
      · subst h3; simp [h1, h2, hc]
      · simp [h1, h2, h3]
theorem map_five {m : Str → Option Value} {a b c d e : Str} {va vb vc vd ve : Value} (ha : m a = some va) (hb : m b = some vb) (hc : m c = some vc) (hd : m d = some vd) (he : m e = some ve) : m = fun y => if y = a then some va else if y = b then some vb else if y = c then some vc else if y = d then some vd else if y = e then some ve else m y := by
  funext y
  by_cases h1 : y = a
  · simp [h1, ha]
  · by_cases h2 : y = b
    · subst h2; simp [h1, hb]
    · by_cases h3 : y = c
      · subst h3; simp [h1, h2, hc]
      · by_cases h4 : y = d
        · subst h4; simp [h1, h2, h3, hd]
        · by_cases h5 : y = e
          · subst h5; simp [h1, h2, h3, h4, he]
          · simp [h1, h2, h3, h4, h5]
theorem All2.app {α β : Type} {R : α → β → Prop} {as' : List α} {bs' : List β} (h' : All2 R as' bs') : ∀ {as : List α} {bs : List β}, All2 R as bs → All2 R (as ++ as') (bs ++ bs')
  | _, _, .nil => h'
  | _, _, .cons x y => .cons x (All2.app h' y)
theorem All2.take {α β : Type} {R : α → β → Prop} : ∀ (k : Nat) {as : List α} {bs : List β}, All2 R as bs → All2 R (as.take k) (bs.take k)
  | 0, _, _, _ => by simpa using All2.nil
  | _ + 1, _, _, .nil => by simpa using All2.nil
  | k + 1, _, _, .cons x y => by simpa using All2.cons x (y.take k)
theorem All2.drop {α β : Type} {R : α → β → Prop} : ∀ (k : Nat) {as : List α} {bs : List β}, All2 R as bs → All2 R (as.drop k) (bs.drop k)
  | 0, _, _, h => by simpa using h
  | _ + 1, _, _, .nil => by simpa using All2.nil
  | k + 1, _, _, .cons _ y => by simpa using y.drop k
theorem fits_nat {k : Nat} (h : k < 100) : Builtin.List.listFitsIndex (k : Int) = true := by
  unfold Builtin.List.listFitsIndex
  simp
  omega
theorem getD_mem {α : Type} {l : List α} {i : Nat} {d : α} (h : i < l.length) : l.getD i d ∈ l := by
  rw [List.getD_eq_getElem?_getD, List.getElem?_eq_getElem h]
  exact List.getElem_mem _
theorem kl_ins_nat {vs : List Value} {k : Nat} {y : Value} (h : k ≤ vs.length) : kl_ins vs (k : Int) y = vs.take k ++ y :: vs.drop k := by
  unfold kl_ins
  have e : (if (k : Int) < 0 then ((k : Int) + (vs.length : Int)).toNat else min (k : Int).toNat vs.length) = k := by
    rw [if_neg (by omega)]
    simp
    omega
  rw [e]
theorem item_made {prog : Program} {w : World} {A : Around} {E : Value → Shared → Prop} {s : Shared} {h₀ : Heap} {L ra : Addr} {news : List (Addr × Obj)} {value slice : PySem.Expr} {rvs : List Value} {rs : List Row} {rn i : Nat} {u : Tok} {Q : Value → Shared → Prop} (N : News h₀ L s.heap news) (hra : (ra, listOf rvs.toArray rn) ∈ news) (hr : All2 (RowIs news) rvs rs) (hi : i < rs.length) (h7 : rs.length < 100)
    (h : ∀ x, RowIs news x (rs.getD i []) → Q x s)
    (hs : ∀ t, subscripted slice false (.ref t) (.int (i : Int) u) = operate [.ref t, .int (i : Int) u] (getItem (.ref t) (.int (i : Int) u)) := by intro t; with_unfolding_all rfl) (hg : ∀ t r, letTemporaryGo value (.ref t) r = pure () := by intro _ _; with_unfolding_all rfl) :
    wpAny (model prog w) A (subscriptTail value slice (.ref ra) (.int (i : Int) u)) Q E s := by
  obtain ⟨x, hx, hn⟩ := hr.get (i := i) (b := rs.getD i []) (by simp [List.getElem?_eq_getElem hi])
  exact item_listL (l := rvs) ⟨_, (N _ hra).1, rfl, rn, rfl⟩ (by omega) (by omega) (by simpa using hx) (h x hn) (hs ra) (hg ra)
theorem item_ints {prog : Program} {w : World} {A : Around} {E : Value → Shared → Prop} {s : Shared} {h₀ : Heap} {L ra : Addr} {news : List (Addr × Obj)} {value slice : PySem.Expr} {vs : List Value} {ns : List Nat} {rn : Nat} {j : Int} {i : Nat} {u : Tok} {Q : Value → Shared → Prop} (N : News h₀ L s.heap news) (hra : (ra, listOf vs.toArray rn) ∈ news) (hr : IntsOf vs ns) (hj : j = (i : Int)) (hi : i < ns.length) (h7 : ns.length < 100)
    (h : ∀ t, Q (.int ((ns.getD i 0 : Nat) : Int) t) s)
    (hs : ∀ t, subscripted slice false (.ref t) (.int j u) = operate [.ref t, .int j u] (getItem (.ref t) (.int j u)) := by intro t; with_unfolding_all rfl) (hg : ∀ t r, letTemporaryGo value (.ref t) r = pure () := by intro _ _; with_unfolding_all rfl) :
    wpAny (model prog w) A (subscriptTail value slice (.ref ra) (.int j u)) Q E s := by
  subst hj
  obtain ⟨x, hx, t, rfl⟩ := hr.get (i := i) (b := ns.getD i 0) (by simp [List.getElem?_eq_getElem hi])
  exact item_listL (l := vs) ⟨_, (N _ hra).1, rfl, rn, rfl⟩ (by omega) (by omega) (by simpa using hx) (h t) (hs ra) (hg ra)
variable {w : World} {mean : ExcName → Option Value} {mg mb : Str → Option Value}
theorem line_ctr {dp un : Nat} {gd : Option (List Code)} {cn : Str} {cs : Scope} {a : Addr} {ccd : Value} {outer : List Env} {A₀ : Around} {base g₀ h₀ : Heap} {L : Addr} {m : Str → Option Value} {news : List (Addr × Obj)} {s : Shared} {comp rows : Value} {ks : List (Int × Int)} {rs : List Row}
    {Q E : Value → Shared → Prop}
    (XB : (hd.heap_39 w.params).In base) (TB : Top topProg LO mean mg mb base) (T0 : KtsTurn (outer.filterMap (·.frame)) g₀ h₀) (D : KtsDicts (outer.filterMap (·.frame)) h₀)
    (B : Below A₀ base outer h₀) (F : Fr h₀ L s.heap m) (X : (hd.heap_39 w.params).In h₀) (N : News h₀ L s.heap news) (T : Top topProg LO mean mg mb h₀) (hk : cs.kind = .function)
    (hc : CompIs news comp ks) (hr : MadeIs news rows rs) (hko : KeysOk ks) (hro : ∀ r ∈ rs, RowOk r) (hlen : rs.length ≤ 7)
    (hdp : dp + 50 < recursionLimit) (hun : un + 400 < cLine)
    (ret : ∀ h₀' h' tk ln k vs tl, KtsTurn (outer.filterMap (·.frame)) g₀ h₀' → KtsDicts (outer.filterMap (·.frame)) h₀' → Below A₀ base outer h₀' → Fr h₀' L h' m → (hd.heap_39 w.params).In h₀' → News h₀' L h' (news ++ tl) → Apart news tl → Top topProg LO mean mg mb h₀' →
      (ln, listOf vs.toArray k) ∈ tl → IntsOf vs (lineOf (ahOf ks rs) rs.length) → Q (.ref ln) { s with heap := h', toks := tk }) :
    wpAny (model PySem.Challenge.rw_pg0051_01.row.prog w) (topO dp un gd cn cs L a ccd outer) (call (.ref 153) [comp, rows]) Q E s := by
  obtain ⟨ra, rn, rvs, rfl, hra, hrv⟩ := hr
  have hrl := hrv.length
  w_top off; revert X; k_fill; intro X
  refine wpAny_call ?_
  k_dflt (refine' code_defS ?k1 ?k2 ?k3 ?k4 ?k5 ?XB ?TB ?D ?T0 ?kA ?k6 ?k7 ?k8 ?k9 ?kB ?_ ?cK ?c2 ?c3 ?c4 ?c5; (case kA => exact rfl); (case k2 => exact F); (case k1 => exact B); (case XB => exact XB); (case TB => exact TB); (case D => exact D); (case T0 => exact T0); (case k3 => exact X); (case k4 => exact N); (case k5 => exact T); (case k6 => k_is); (case k7 => k_is); (case k8 => show dp < recursionLimit; omega); (case k9 => exact BindsTo.of_eq rfl); (case kB => exact locs rfl); (case cK => exact hk); (case c2 => exact rfl); (case c3 => exact rfl); (case c4 => exact rfl); (case c5 => decide))
  intro g' L' h1 FG' F' N' B' X' T' D'
  dsimp only
  k_fold
  k_steps
  refine unstop ?_
  refine For_any (by passes_own) ?_
  k_steps
  rename News _ _ _ _ => N1
  refine PyProof.Rows.len_list (News.isList N1 (.tail _ hra)) (by rw [List.size_toArray]; omega) ?_
  k_steps
  refine unstop ?_
  rename Fr _ _ _ _ => F2
  rename News _ _ _ _ => N2
  rename IsRange _ _ _ _ _ _ _ _ => hR
  have hsz : (rvs.toArray.size : Int) = (rs.length : Int) := by rw [List.size_toArray, hrl]
  rw [hsz] at hR
  refine iter_rangeGd (fun i m' news' => ∃ ln vs kk, news' = (ln, listOf vs.toArray kk) :: news ∧ (∀ p ∈ news, p.1 < ln) ∧ IntsOf vs (lineOf (ahOf ks rs) i) ∧ m' "comp" = some comp ∧ m' "rows" = some (.ref ra) ∧ m' "line" = some (.ref ln)) rfl hlen hR
    ⟨g', KtsTurn.refl, D', B', F2, X', N2, T'⟩ ⟨_, [], 0, rfl, by assumption, .nil, rfl, rfl, rfl⟩ ?_ ?_
  · clear F2 N2 hR
    intro i I o m3 news3 h3 tk3 t3 hi hJ off G
    obtain ⟨ln, vs, kk, rfl, hln, hvs, q1, q2, q3⟩ := hJ
    obtain ⟨h02, T2, D2, B2, F2, X2, N2, P2⟩ := G
    rw [map_three q1 q2 q3] at F2
    have hvl := hvs.length
    rw [lineOf_length] at hvl
    have offln : ln ≠ I := off (ln, listOf vs.toArray kk) (.head _)
    dsimp only
    k_steps
    rename News _ _ _ _ => N4
    refine PyProof.Rows.len_list (News.isList N4 (.tail _ (.head _))) (by rw [List.size_toArray]; omega) ?_
    k_steps
    refine unstop ?_
    rename Fr _ _ _ _ => F5
    rename News _ _ _ _ => N5
    have hsz5 : (vs.toArray.size : Int) = ((i : Nat) : Int) := by rw [List.size_toArray, hvl]
    rw [hsz5] at F5
    refine While_any (by passes_own) (fun k s' => ∃ h tk m' t5 t6, s' = { s with heap := h, toks := tk } ∧ k ≤ i ∧ Gd w mean mg mb (topO dp un gd cn cs L a ccd outer) base (envOf cn cs L a ccd :: outer) g' L' m' ((I, o) :: (ln, listOf vs.toArray kk) :: news) h ∧
      downTo (ahOf ks rs i) (lineOf (ahOf ks rs) i) i = downTo (ahOf ks rs i) (lineOf (ahOf ks rs) i) k ∧ m' "comp" = some comp ∧ m' "rows" = some (.ref ra) ∧ m' "line" = some (.ref ln) ∧ m' "spot" = some (.int (i : Int) t5) ∧ m' "place" = some (.int (k : Int) t6)) i ?_ ?_
    · exact ⟨_, _, _, _, _, rfl, Nat.le_refl _, ⟨h02, T2, D2, B2, F5, X2, N5, P2⟩, rfl, rfl, rfl, rfl, rfl, rfl⟩
    · intro k s' hW
      obtain ⟨h6, tk6, m6, t5, t6, rfl, hki, ⟨h06, T6, D6, B6, F6, X6, N6, P6⟩, hdn, w1, w2, w3, w4, w5⟩ := hW
      rw [map_five w1 w2 w3 w4 w5] at F6
      clear F5 N5
      cases k with
      | zero =>
        k_steps
        rename Fr _ _ _ _ => F7
        rename News _ _ _ _ => N7
        refine kl_insert (l := kl_ins vs (((0 : Nat) : Int)) (.int (i : Int) t5)) F7 N7 (fits_nat (by omega)) (by simp) (Upd.tail (Ne.symm (off _ (.head _))) (Upd.head fun p hp => Nat.ne_of_lt (hln p hp))) (by rw [List.toList_toArray, sizeLine_eq]; omega) ?_
        intro h8 F8 N8
        clear F7 N7
        k_steps
        refine ⟨_, _, _, _, rfl, ⟨h06, T6, D6, B6, F8, X6, N8, P6⟩, ?_, ⟨ln, _, _, rfl, hln, ?_, rfl, rfl, rfl⟩⟩
        · intro p hp q hq
          rw [List.mem_singleton.mp hq]
          rcases List.mem_cons.mp hp with rfl | hp
          · exact offln
          · exact off _ (.tail _ hp)
        · rw [lineOf_succ, insStep, lineOf_length, hdn, kl_ins_nat (by omega)]
          rw [downTo]
          exact All2.app (.cons ⟨t5, rfl⟩ (hvs.drop _)) (hvs.take _)
      | succ k =>
        have hcx := hc.mono (news' := (I, o) :: (ln, listOf vs.toArray kk) :: news) fun _ h => .tail _ (.tail _ h)
        have hrx : All2 (RowIs ((I, o) :: (ln, listOf vs.toArray kk) :: news)) rvs rs := hrv.mono fun _ _ => RowIs.mono fun _ h => .tail _ (.tail _ h)
        k_steps
        rename News _ _ _ _ => N7
        refine item_made N7 (.tail _ (.tail _ hra)) hrx hi (by omega) ?_
        intro rl hrl1
        k_steps
        rename News _ _ _ _ => N7
        refine item_ints (i := k) N7 (.tail _ (.head _)) hvs (by omega) (by rw [lineOf_length]; omega) (by rw [lineOf_length]; omega) ?_
        intro t8
        k_steps
        rename News _ _ _ _ => N7
        have hjm : (lineOf (ahOf ks rs) i).getD k 0 < rs.length := by
          have : (lineOf (ahOf ks rs) i).getD k 0 ∈ lineOf (ahOf ks rs) i := by
            rw [List.getD_eq_getElem?_getD, List.getElem?_eq_getElem (by rw [lineOf_length]; omega)]
            exact List.getElem_mem _
          have := lineOf_mem _ _ _ this
          omega
        refine item_made N7 (.tail _ (.tail _ hra)) hrx hjm (by omega) ?_
        intro rr hrr1
        k_steps
        refine unstop ?_
        rename Fr _ _ _ _ => F7
        rename News _ _ _ _ => N7
        refine ahead_ctr XB TB T6 D6 B6 F7 X6 N7 P6 rfl hcx hrl1 hrr1 hko (hro _ (getD_mem hi)) (hro _ (getD_mem hjm)) ?_ ?_ ?_
        · show dp + 1 + 40 < recursionLimit
          omega
        · show un + 3 + 300 < cLine
          omega
        intro h09 h9 tk9 T9 D9 B9 F9 X9 N9 P9
        clear F7 N7
        have hstep : downTo (ahOf ks rs i) (lineOf (ahOf ks rs) i) (k + 1) = if ahead ks (rs.getD i []) (rs.getD ((lineOf (ahOf ks rs) i).getD k 0) []) then downTo (ahOf ks rs i) (lineOf (ahOf ks rs) i) k else k + 1 := rfl
        cases hb : ahead ks (rs.getD i []) (rs.getD ((lineOf (ahOf ks rs) i).getD k 0) []) with
        | true =>
          rw [hb, if_pos rfl] at hstep
          k_steps
          rename Fr _ _ _ _ => F8
          rename News _ _ _ _ => N8
          have e1 : ((k + 1 : Nat) : Int) - 1 = ((k : Nat) : Int) := by omega
          rw [e1] at F8
          exact ⟨k, Nat.lt_succ_self _, _, _, _, _, _, rfl, by omega, ⟨h09, T9, D9, B9, F8, X9, N8, P9⟩, hdn.trans hstep, rfl, rfl, rfl, rfl, rfl⟩
        | false =>
          rw [hb, if_neg Bool.false_ne_true] at hstep
          k_steps
          rename Fr _ _ _ _ => F7
          rename News _ _ _ _ => N7
          refine kl_insert (l := kl_ins vs (((k + 1 : Nat) : Int)) (.int (i : Int) t5)) F7 N7 (fits_nat (by omega)) (by simp) (Upd.tail (Ne.symm (off _ (.head _))) (Upd.head fun p hp => Nat.ne_of_lt (hln p hp))) (by rw [List.toList_toArray, sizeLine_eq]; omega) ?_
          intro h8 F8 N8
          clear F7 N7
          k_steps
          refine ⟨_, _, _, _, rfl, ⟨h09, T9, D9, B9, F8, X9, N8, P9⟩, ?_, ⟨ln, _, _, rfl, hln, ?_, rfl, rfl, rfl⟩⟩
          · intro p hp q hq
            rw [List.mem_singleton.mp hq]
            rcases List.mem_cons.mp hp with rfl | hp
            · exact offln
            · exact off _ (.tail _ hp)
          · rw [lineOf_succ, insStep, lineOf_length, hdn, kl_ins_nat (by omega)]
            rw [hstep]
            exact All2.app (.cons ⟨t5, rfl⟩ (hvs.drop _)) (hvs.take _)

  · intro m3 news3 h3 tk3 hJ G
    obtain ⟨ln, vs, kk, rfl, hln, hvs, q1, q2, q3⟩ := hJ
    obtain ⟨h02, T2, D2, B2, F2, X2, N2, P2⟩ := G
    rw [map_three q1 q2 q3] at F2
    dsimp only
    k_steps
    rename KtsTurn _ _ _ => kT
    rename KtsDicts _ _ => kD
    rename Below _ _ _ _ => kB
    rename Fr _ _ _ _ => kF
    rename News _ _ _ _ => kN
    rename Top _ _ _ _ _ _ => kP
    refine ret _ _ _ ln kk vs [(ln, listOf vs.toArray kk)] kT kD kB kF (by assumption) ?_ ?_ kP (.head _) hvs
    · intro p hp
      refine kN p ?_
      rcases List.mem_append.mp hp with hp | hp
      · exact .tail _ hp
      · rw [List.mem_singleton.mp hp]; exact .head _
    · intro q hq p hp
      rw [List.mem_singleton.mp hp]
      exact Nat.ne_of_lt (hln q hq)
end Mine
end
section
open PySem PySem.W PyProof.Rows PySem.Calls
namespace Mine
/-- the answer of a tree of questions when a plain function answers -/
def evT {α : Type} (f : Nat → Nat → Bool) : KasT α → α
  | .ret a => a
  | .ask i j k => evT f (k (f i j))
theorem evT_bind {α β : Type} (f : Nat → Nat → Bool) (g : α → KasT β) : ∀ t : KasT α, evT f (t.bind g) = evT f (g (evT f t))
  | .ret _ => rfl
  | .ask i j k => evT_bind f g (k (f i j))
/-- two places by a weight -/
def byW (r : Nat → Int) (i j : Nat) : Bool := decide (r i < r j)
def at' (p : Array Nat) (i : Nat) : Nat := p.getD i 0
theorem at_rev {p : Array Nat} {i j : Nat} (hj : j ≤ p.size) (k : Nat) : at' (kas_rev p i j) k = if i ≤ k ∧ k < j then at' p (i + j - 1 - k) else at' p k := by
  have h := getElem?_mirror_all (i := i) hj k
  unfold at' kas_rev
  simp only [Array.getD_eq_getD_getElem?]
  rw [h]
  split <;> rfl
theorem at_bubble {p : Array Nat} {k d : Nat} (hk : k < p.size) (hd : d ≤ k) (i : Nat) : at' (bubble p k d) i = if i = k - d then at' p k else if k - d < i ∧ i ≤ k then at' p (i - 1) else at' p i := by
  have h := getElem?_bubble hk d hd i
  unfold at'
  simp only [Array.getD_eq_getD_getElem?]
  rw [h]
  split
  · rfl
  · split <;> rfl
variable {r : Nat → Int}
theorem asc_spec (p : Array Nat) : ∀ (f n : Nat), n ≤ evT (byW r) (kas_asc p f n) ∧ evT (byW r) (kas_asc p f n) ≤ n + f ∧ (∀ i, n ≤ i → i < evT (byW r) (kas_asc p f n) → r (at' p (i - 1)) ≤ r (at' p i)) ∧ (evT (byW r) (kas_asc p f n) < n + f → r (at' p (evT (byW r) (kas_asc p f n))) < r (at' p (evT (byW r) (kas_asc p f n) - 1)))
  | 0, n => ⟨Nat.le_refl _, Nat.le_refl _, fun i h1 h2 => absurd h2 (Nat.not_lt.mpr h1), fun h => absurd h (Nat.lt_irrefl _)⟩
  | f + 1, n => by
    have e : evT (byW r) (kas_asc p (f + 1) n) = if byW r (at' p n) (at' p (n - 1)) = true then n else evT (byW r) (kas_asc p f (n + 1)) := by
      show evT (byW r) (if byW r (at' p n) (at' p (n - 1)) = true then .ret n else kas_asc p f (n + 1)) = _
      split <;> rfl
    rw [e]
    by_cases h : byW r (at' p n) (at' p (n - 1)) = true
    · rw [if_pos h]
      refine ⟨Nat.le_refl _, by omega, fun i h1 h2 => absurd h2 (Nat.not_lt.mpr h1), fun _ => by simpa [byW] using h⟩
    · rw [if_neg h]
      obtain ⟨a1, a2, a3, a4⟩ := asc_spec p f (n + 1)
      have h' : r (at' p (n - 1)) ≤ r (at' p n) := by simpa [byW] using h
      refine ⟨by omega, by omega, fun i h1 h2 => ?_, fun hlt => a4 (by omega)⟩
      rcases Nat.lt_or_ge n i with hi | hi
      · exact a3 i hi h2
      · have : i = n := by omega
        rw [this]; exact h'
/-- a front of n places holds the first n numbers, the rest stands as it stood -/
def Front (p : Array Nat) (N n : Nat) : Prop := p.size = N ∧ n ≤ N ∧ (∀ i, i < n → at' p i < n) ∧ (∀ i, n ≤ i → i < N → at' p i = i) ∧ p.toList.Perm (List.range N)
def Up (r : Nat → Int) (p : Array Nat) (n : Nat) : Prop := ∀ i j, i < j → j < n → r (at' p i) < r (at' p j) ∨ (r (at' p i) = r (at' p j) ∧ at' p i < at' p j)
def Down (r : Nat → Int) (p : Array Nat) (n : Nat) : Prop := ∀ i j, i < j → j < n → r (at' p j) < r (at' p i) ∨ (r (at' p j) = r (at' p i) ∧ at' p j < at' p i)
theorem Front.rev {p : Array Nat} {N n : Nat} (F : Front p N n) {i : Nat} : Front (kas_rev p i n) N n := by
  obtain ⟨h1, h2, h3, h4, h5⟩ := F
  have e := at_rev (p := p) (i := i) (j := n) (by omega)
  refine ⟨(kas_rev_size _ _).trans h1, h2, fun k hk => ?_, fun k hk hN => ?_, (Array.perm_iff_toList_perm.mp (mirror_perm p i n _)).trans h5⟩
  · rw [e]; split
    · exact h3 _ (by omega)
    · exact h3 _ hk
  · rw [e, if_neg (by omega)]; exact h4 k hk hN
theorem Front.more {p : Array Nat} {N n m : Nat} (F : Front p N n) (h : n ≤ m) (hm : m ≤ N) : Front p N m := by
  obtain ⟨h1, h2, h3, h4, h5⟩ := F
  refine ⟨h1, hm, fun i hi => ?_, fun i hi hN => h4 i (by omega) hN, h5⟩
  rcases Nat.lt_or_ge i n with q | q
  · have := h3 i q; omega
  · rw [h4 i q (by omega)]; exact hi
theorem Down.rev {p : Array Nat} {N n : Nat} (F : Front p N n) (D : Down r p n) : Up r (kas_rev p 0 n) n := by
  intro i j hij hj
  have e := at_rev (p := p) (i := 0) (j := n) (by have := F.1; have := F.2.1; omega)
  rw [e, e, if_pos (by omega), if_pos (by omega)]
  exact D (0 + n - 1 - j) (0 + n - 1 - i) (by omega) (by omega)
/-- a rising front grown by places that do not fall -/
theorem Up.more {p : Array Nat} {N n : Nat} (F : Front p N n) (h1 : 1 ≤ n) (U : Up r p n) : ∀ m, n ≤ m → m ≤ N → (∀ i, n ≤ i → i < m → r (at' p (i - 1)) ≤ r (at' p i)) → Up r p m := by
  intro m hm
  induction hm with
  | refl => intro _ _; exact U
  | @step m hm ih =>
    intro hN hs
    have ihm := ih (by omega) fun i a b => hs i a (by omega)
    intro i j hij hj
    have hm : n ≤ m := hm
    rcases Nat.lt_or_ge j m with q | q
    · exact ihm i j hij q
    · have ej : j = m := by omega
      subst ej
      have hl := hs j hm (Nat.lt_succ_self _)
      have hv : at' p j = j := F.2.2.2.1 j hm (by omega)
      have hi : at' p i < j := (F.more hm (by omega)).2.2.1 i hij
      have : r (at' p i) ≤ r (at' p (j - 1)) := by
        rcases Nat.lt_or_ge i (j - 1) with q | q
        · have := ihm i (j - 1) q (by omega)
          omega
        · have : i = j - 1 := by omega
          rw [this]; exact Int.le_refl _
      omega
theorem tail3_spec {p : Array Nat} {N n : Nat} (F : Front p N n) (h1 : 1 ≤ n) (D : Down r p n) :
    let o := evT (byW r) (kas_tail3 n N p)
    1 ≤ o.1 ∧ Front o.2 N o.1 ∧ Up r o.2 o.1 := by
  intro o
  have e : o = (evT (byW r) (kas_asc (kas_rev p 0 n) (N - n) n), kas_rev p 0 n) := by
    show evT (byW r) (kas_tail3 n N p) = _
    unfold kas_tail3
    rw [evT_bind]
    rfl
  rw [e]
  obtain ⟨a1, a2, a3, -⟩ := asc_spec (r := r) (kas_rev p 0 n) (N - n) n
  have hN := F.2.1
  refine ⟨by dsimp only; omega, F.rev.more a1 (by omega), Up.more F.rev h1 (D.rev F) _ a1 (by omega) a3⟩
/-- falling, with a run of q + 1 alike at the end, as they came -/
def Fall (r : Nat → Int) (p : Array Nat) (n q : Nat) : Prop := q + 1 ≤ n ∧ (∀ i j, i < j → j < n → i < n - (q + 1) → r (at' p j) < r (at' p i) ∨ (j < n - (q + 1) ∧ r (at' p j) = r (at' p i) ∧ at' p j < at' p i)) ∧ (∀ i j, n - (q + 1) ≤ i → i < j → j < n → r (at' p i) = r (at' p j) ∧ at' p i < at' p j)
theorem Fall.rev {p : Array Nat} {N n q : Nat} (F : Front p N n) (h : Fall r p n q) : Down r (kas_rev p (n - (q + 1)) n) n := by
  obtain ⟨h1, h2, h3⟩ := h
  have e := at_rev (p := p) (i := n - (q + 1)) (j := n) (by have := F.1; have := F.2.1; omega)
  intro i j hij hj
  rw [e, e]
  by_cases hi : n - (q + 1) ≤ i
  · rw [if_pos (by omega), if_pos (by omega)]
    have := h3 (n - (q + 1) + n - 1 - j) (n - (q + 1) + n - 1 - i) (by omega) (by omega) (by omega)
    omega
  · rw [if_neg (show ¬ (n - (q + 1) ≤ i ∧ i < n) by omega)]
    split
    · have := h2 i (n - (q + 1) + n - 1 - j) (by omega) (by omega) (by omega)
      omega
    · have := h2 i j (by omega) (by omega) (by omega)
      omega
theorem Fall.down {p : Array Nat} {n : Nat} (h : Fall r p n 0) : Down r p n := by
  obtain ⟨h1, h2, h3⟩ := h
  intro i j hij hj
  have := h2 i j hij hj (by omega)
  omega
theorem Down.fall {p : Array Nat} {N n : Nat} (F : Front p N n) (D : Down r p n) (h1 : 1 ≤ n) (hl : r (at' p n) < r (at' p (n - 1))) : Fall r p (n + 1) 0 := by
  refine ⟨by omega, fun i j hij hj hi => ?_, fun i j hi hij hj => by omega⟩
  rcases Nat.lt_or_ge j n with q | q
  · have := D i j hij q
    omega
  · have ej : j = n := by omega
    subst ej
    left
    have : r (at' p (j - 1)) ≤ r (at' p i) := by
      rcases Nat.lt_or_ge i (j - 1) with q | q
      · have := D i (j - 1) q (by omega)
        omega
      · have : i = j - 1 := by omega
        rw [this]; exact Int.le_refl _
    omega
theorem desc_spec {N : Nat} : ∀ (f : Nat) (p : Array Nat) (n q : Nat), n + f ≤ N → Front p N n → Fall r p n q →
    Front (evT (byW r) (kas_desc f p n q)).1 N (evT (byW r) (kas_desc f p n q)).2.1 ∧ Fall r (evT (byW r) (kas_desc f p n q)).1 (evT (byW r) (kas_desc f p n q)).2.1 (evT (byW r) (kas_desc f p n q)).2.2
  | 0, p, n, q, _, F, h => ⟨F, h⟩
  | f + 1, p, n, q, hN, F, h => by
    have e : evT (byW r) (kas_desc (f + 1) p n q) = if byW r (at' p n) (at' p (n - 1)) = true then (if q > 0 then evT (byW r) (kas_desc f (kas_rev p (n - (q + 1)) n) (n + 1) 0) else evT (byW r) (kas_desc f p (n + 1) 0))
        else if byW r (at' p (n - 1)) (at' p n) = true then (p, n, q) else evT (byW r) (kas_desc f p (n + 1) (q + 1)) := by
      show evT (byW r) (if byW r (at' p n) (at' p (n - 1)) = true then (if q > 0 then kas_desc f (kas_rev p (n - (q + 1)) n) (n + 1) 0 else kas_desc f p (n + 1) 0)
        else .ask (at' p (n - 1)) (at' p n) fun d => if d = true then .ret (p, n, q) else kas_desc f p (n + 1) (q + 1)) = _
      split
      · split <;> rfl
      · show evT (byW r) (if byW r (at' p (n - 1)) (at' p n) = true then .ret (p, n, q) else kas_desc f p (n + 1) (q + 1)) = _
        split <;> rfl
    have hsz := F.1
    have hn1 := h.1
    rw [e]
    by_cases h1 : byW r (at' p n) (at' p (n - 1)) = true
    · rw [if_pos h1]
      have h1' : r (at' p n) < r (at' p (n - 1)) := by simpa [byW] using h1
      by_cases hq : q > 0
      · rw [if_pos hq]
        have er := at_rev (p := p) (i := n - (q + 1)) (j := n) (by omega)
        refine desc_spec f _ _ _ (by omega) (F.rev.more (Nat.le_succ _) (by omega)) ((h.rev F).fall (F.rev) (by omega) ?_)
        rw [er, er, if_neg (by omega), if_pos (by omega)]
        have := h.2.2 (n - (q + 1)) (n - 1) (by omega) (by omega) (by omega)
        have e2 : n - (q + 1) + n - 1 - (n - 1) = n - (q + 1) := by omega
        rw [e2]
        omega
      · rw [if_neg hq]
        have q0 : q = 0 := by omega
        subst q0
        exact desc_spec f _ _ _ (by omega) (F.more (Nat.le_succ _) (by omega)) (h.down.fall F (by omega) h1')
    · rw [if_neg h1]
      by_cases h2 : byW r (at' p (n - 1)) (at' p n) = true
      · rw [if_pos h2]; exact ⟨F, h⟩
      · rw [if_neg h2]
        have h1' : r (at' p (n - 1)) ≤ r (at' p n) := by simpa [byW] using h1
        have h2' : r (at' p n) ≤ r (at' p (n - 1)) := by simpa [byW] using h2
        have hv : at' p n = n := F.2.2.2.1 n (Nat.le_refl _) (by omega)
        refine desc_spec f _ _ _ (by omega) (F.more (Nat.le_succ _) (by omega)) ⟨by omega, fun i j hij hj hi => ?_, fun i j hi hij hj => ?_⟩
        · rcases Nat.lt_or_ge j n with c | c
          · have := h.2.1 i j hij c (by omega)
            omega
          · have ej : j = n := by omega
            subst ej
            have := h.2.1 i (j - 1) (by omega) (by omega) (by omega)
            omega
        · rcases Nat.lt_or_ge j n with c | c
          · exact h.2.2 i j (by omega) hij c
          · have ej : j = n := by omega
            subst ej
            have hb := F.2.2.1 i hij
            rcases Nat.lt_or_ge i (j - 1) with d | d
            · have := h.2.2 i (j - 1) (by omega) d (by omega)
              omega
            · have : i = j - 1 := by omega
              rw [this] at hb ⊢
              omega
theorem descPart_spec {p : Array Nat} {N n : Nat} (F : Front p N n) (h1 : 1 ≤ n) (hn : n + 1 ≤ N) (D : Down r p n) (hl : r (at' p n) < r (at' p (n - 1))) :
    let o := evT (byW r) (kas_descPart n N p)
    1 ≤ o.1 ∧ Front o.2 N o.1 ∧ Up r o.2 o.1 := by
  intro o
  have hd := desc_spec (r := r) (N - (n + 1)) p (n + 1) 0 (by omega) (F.more (Nat.le_succ _) hn) (D.fall F h1 hl)
  have e : o = if (evT (byW r) (kas_desc (N - (n + 1)) p (n + 1) 0)).2.2 > 0 then evT (byW r) (kas_tail3 (evT (byW r) (kas_desc (N - (n + 1)) p (n + 1) 0)).2.1 N (kas_rev (evT (byW r) (kas_desc (N - (n + 1)) p (n + 1) 0)).1 ((evT (byW r) (kas_desc (N - (n + 1)) p (n + 1) 0)).2.1 - ((evT (byW r) (kas_desc (N - (n + 1)) p (n + 1) 0)).2.2 + 1)) (evT (byW r) (kas_desc (N - (n + 1)) p (n + 1) 0)).2.1))
      else evT (byW r) (kas_tail3 (evT (byW r) (kas_desc (N - (n + 1)) p (n + 1) 0)).2.1 N (evT (byW r) (kas_desc (N - (n + 1)) p (n + 1) 0)).1) := by
    show evT (byW r) (kas_descPart n N p) = _
    unfold kas_descPart
    rw [evT_bind]
    split <;> rfl
  rw [e]
  revert hd
  generalize evT (byW r) (kas_desc (N - (n + 1)) p (n + 1) 0) = x
  intro hd
  obtain ⟨p', n', q'⟩ := x
  dsimp only at hd ⊢
  have := hd.2.1
  split
  · exact tail3_spec hd.1.rev (by omega) (hd.2.rev hd.1)
  · have q0 : q' = 0 := by omega
    subst q0
    exact tail3_spec hd.1 (by omega) hd.2.down
theorem count_spec {N : Nat} (hN : 1 ≤ N) (p : Array Nat) (F : Front p N 1) :
    let o := evT (byW r) (kas_count N p)
    1 ≤ o.1 ∧ Front o.2 N o.1 ∧ Up r o.2 o.1 := by
  intro o
  obtain ⟨a1, a2, a3, a4⟩ := asc_spec (r := r) p (N - 1) 1
  have e : o = if (evT (byW r) (kas_asc p (N - 1) 1) == N) = true then (evT (byW r) (kas_asc p (N - 1) 1), p) else if evT (byW r) (kas_asc p (N - 1) 1) > 1 then
      (if byW r (at' p 0) (at' p (evT (byW r) (kas_asc p (N - 1) 1) - 1)) = true then (evT (byW r) (kas_asc p (N - 1) 1), p) else evT (byW r) (kas_descPart (evT (byW r) (kas_asc p (N - 1) 1)) N (kas_rev p 0 (evT (byW r) (kas_asc p (N - 1) 1)))))
      else evT (byW r) (kas_descPart (evT (byW r) (kas_asc p (N - 1) 1)) N p) := by
    show evT (byW r) (kas_count N p) = _
    unfold kas_count
    rw [evT_bind]
    split
    · rfl
    · split
      · show evT (byW r) (if byW r (at' p 0) (at' p (evT (byW r) (kas_asc p (N - 1) 1) - 1)) = true then .ret (evT (byW r) (kas_asc p (N - 1) 1), p) else kas_descPart (evT (byW r) (kas_asc p (N - 1) 1)) N (kas_rev p 0 (evT (byW r) (kas_asc p (N - 1) 1)))) = _
        split <;> rfl
      · rfl
  rw [e]
  revert a1 a2 a3 a4
  generalize evT (byW r) (kas_asc p (N - 1) 1) = n
  intro a1 a2 a3 a4
  have U1 : Up r p 1 := fun i j hij hj => by omega
  have F' : Front p N n := F.more a1 (by omega)
  have U : Up r p n := Up.more F (Nat.le_refl _) U1 n a1 (by omega) a3
  split
  · exact ⟨a1, F', U⟩
  · rename_i hne
    have hlt : n < N := by
      have : n ≠ N := fun q => hne (by rw [q]; exact beq_self_eq_true _)
      omega
    have hl := a4 (by omega)
    have hsz := F.1
    split
    · split
      · exact ⟨a1, F', U⟩
      · rename_i h3
        have h3' : r (at' p (n - 1)) ≤ r (at' p 0) := by simpa [byW] using h3
        have er := at_rev (p := p) (i := 0) (j := n) (by omega)
        have alike : ∀ i j, i < j → j < n → r (at' p i) = r (at' p j) ∧ at' p i < at' p j := by
          intro i j hij hj
          have b1 : r (at' p 0) ≤ r (at' p i) := by
            rcases Nat.eq_zero_or_pos i with q | q
            · rw [q]; exact Int.le_refl _
            · have := U 0 i q (by omega); omega
          have b2 : r (at' p j) ≤ r (at' p (n - 1)) := by
            rcases Nat.lt_or_ge j (n - 1) with q | q
            · have := U j (n - 1) q (by omega); omega
            · have : j = n - 1 := by omega
              rw [this]; exact Int.le_refl _
          have := U i j hij hj
          omega
        refine descPart_spec F'.rev a1 (by omega) ?_ ?_
        · intro i j hij hj
          rw [er, er, if_pos (by omega), if_pos (by omega)]
          have := alike (0 + n - 1 - j) (0 + n - 1 - i) (by omega) (by omega)
          omega
        · rw [er, er, if_neg (by omega), if_pos (by omega)]
          have := alike 0 (n - 1) (by omega) (by omega)
          have e2 : 0 + n - 1 - (n - 1) = 0 := by omega
          rw [e2]
          omega
    · have n1 : n = 1 := by omega
      subst n1
      exact descPart_spec F' a1 (by omega) (fun i j hij hj => by omega) hl
theorem place_spec {p : Array Nat} {k : Nat} (hs : ∀ i j, i < j → j < k → r (at' p i) ≤ r (at' p j)) : ∀ (f l u : Nat), u ≤ k → u ≤ l + f → l ≤ k → (∀ i, i < l → r (at' p i) ≤ r (at' p k)) → (∀ i, u ≤ i → i < k → r (at' p k) < r (at' p i)) →
    evT (byW r) (kas_place p k f l u) ≤ k ∧ (∀ i, i < evT (byW r) (kas_place p k f l u) → r (at' p i) ≤ r (at' p k)) ∧ (∀ i, evT (byW r) (kas_place p k f l u) ≤ i → i < k → r (at' p k) < r (at' p i))
  | 0, l, u, hu, hf, hl, h1, h2 => ⟨hl, h1, fun i a b => h2 i (by have : l ≤ i := a; omega) b⟩
  | f + 1, l, u, hu, hf, hl, h1, h2 => by
    have e : evT (byW r) (kas_place p k (f + 1) l u) = if l ≥ u then l else if byW r (at' p k) (at' p ((l + u) / 2)) = true then evT (byW r) (kas_place p k f l ((l + u) / 2)) else evT (byW r) (kas_place p k f ((l + u) / 2 + 1) u) := by
      show evT (byW r) (if l ≥ u then .ret l else .ask (at' p k) (at' p ((l + u) / 2)) fun c => if c = true then kas_place p k f l ((l + u) / 2) else kas_place p k f ((l + u) / 2 + 1) u) = _
      split
      · rfl
      · show evT (byW r) (if byW r (at' p k) (at' p ((l + u) / 2)) = true then kas_place p k f l ((l + u) / 2) else kas_place p k f ((l + u) / 2 + 1) u) = _
        split <;> rfl
    rw [e]
    split
    · exact ⟨hl, h1, fun i a b => h2 i (by omega) b⟩
    · split
      · rename_i hc
        have hc' : r (at' p k) < r (at' p ((l + u) / 2)) := by simpa [byW] using hc
        refine place_spec hs f _ _ (by omega) (by omega) hl h1 fun i a b => ?_
        rcases Nat.lt_or_ge ((l + u) / 2) i with q | q
        · have := hs _ _ q b; omega
        · have : i = (l + u) / 2 := by omega
          rw [this]; exact hc'
      · rename_i hc
        have hc' : r (at' p ((l + u) / 2)) ≤ r (at' p k) := by simpa [byW] using hc
        refine place_spec hs f _ _ hu (by omega) (by omega) (fun i a => ?_) h2
        rcases Nat.lt_or_ge i ((l + u) / 2) with q | q
        · have := hs _ _ q (by omega); omega
        · have : i = (l + u) / 2 := by omega
          rw [this]; exact hc'
theorem bin_spec {N : Nat} : ∀ (f : Nat) (p : Array Nat) (k : Nat), k + f = N → Front p N k → Up r p k → Front (evT (byW r) (kas_bin f p k)) N N ∧ Up r (evT (byW r) (kas_bin f p k)) N
  | 0, p, k, hN, F, U => by
    have : k = N := by omega
    subst this
    exact ⟨F, U⟩
  | f + 1, p, k, hN, F, U => by
    have e : evT (byW r) (kas_bin (f + 1) p k) = evT (byW r) (kas_bin f (bubble p k (k - evT (byW r) (kas_place p k k 0 k))) (k + 1)) := by
      show evT (byW r) ((kas_place p k k 0 k).bind fun l => kas_bin f (bubble p k (k - l)) (k + 1)) = _
      rw [evT_bind]
    rw [e]
    obtain ⟨b1, b2, b3⟩ := place_spec (r := r) (p := p) (k := k) (fun i j hij hj => by have := U i j hij hj; omega) k 0 k (Nat.le_refl _) (by omega) (Nat.zero_le _) (fun i hi => by omega) (fun i a b => by omega)
    revert b1 b2 b3
    generalize evT (byW r) (kas_place p k k 0 k) = l
    intro b1 b2 b3
    have hsz := F.1
    have hv : at' p k = k := F.2.2.2.1 k (Nat.le_refl _) (by omega)
    have eb := at_bubble (p := p) (k := k) (d := k - l) (by omega) (by omega)
    have ekl : k - (k - l) = l := by omega
    rw [ekl] at eb
    refine bin_spec f _ _ (by omega) ⟨(bubble_size _ _ _).trans hsz, by omega, fun i hi => ?_, fun i hi hN' => ?_, (Array.perm_iff_toList_perm.mp (bubble_perm p k _)).trans F.2.2.2.2⟩ fun i j hij hj => ?_
    · rw [eb]; split
      · omega
      · split
        · have := F.2.2.1 (i - 1) (by omega); omega
        · have := F.2.2.1 i (by omega); omega
    · rw [eb, if_neg (by omega), if_neg (by omega)]
      exact F.2.2.2.1 i (by omega) hN'
    · have hi' := F.2.2.1
      rw [eb, eb]
      by_cases c1 : i = l
      · rw [if_pos c1, if_neg (by omega), if_pos (by omega)]
        have := b3 (j - 1) (by omega) (by omega)
        omega
      · rw [if_neg c1]
        by_cases c2 : l < i ∧ i ≤ k
        · rw [if_pos c2, if_neg (by omega), if_pos (by omega)]
          exact U (i - 1) (j - 1) (by omega) (by omega)
        · rw [if_neg c2]
          by_cases c3 : j = l
          · rw [if_pos c3]
            have := b2 i (by omega)
            have := hi' i (by omega)
            omega
          · rw [if_neg c3]
            split
            · exact U i (j - 1) (by omega) (by omega)
            · exact U i j hij (by omega)
/-- the sort of n places by a weight: they rise, those alike as they came -/
theorem sort_spec {N : Nat} (hN : 1 ≤ N) : Front (evT (byW r) (kas_sort N)) N N ∧ Up r (evT (byW r) (kas_sort N)) N := by
  have F : Front (List.toArray (List.range N)) N 1 := by
    have ea : ∀ i, i < N → at' (List.toArray (List.range N)) i = i := fun i hi => by
      unfold at'
      simp [Array.getD, hi]
    refine ⟨by simp, hN, fun i hi => ?_, fun i _ hi => ea i hi, by simp⟩
    rw [ea i (by omega)]; exact hi
  have e : evT (byW r) (kas_sort N) = if (evT (byW r) (kas_count N (List.toArray (List.range N)))).1 < N then evT (byW r) (kas_bin (N - max (evT (byW r) (kas_count N (List.toArray (List.range N)))).1 1) (evT (byW r) (kas_count N (List.toArray (List.range N)))).2 (max (evT (byW r) (kas_count N (List.toArray (List.range N)))).1 1)) else (evT (byW r) (kas_count N (List.toArray (List.range N)))).2 := by
    unfold kas_sort
    rw [evT_bind]
    split <;> rfl
  rw [e]
  have hc := count_spec (r := r) hN _ F
  dsimp only at hc
  revert hc
  generalize evT (byW r) (kas_count N (List.toArray (List.range N))) = o
  intro hc
  obtain ⟨h1, h2, h3⟩ := hc
  have hm : max o.1 1 = o.1 := by omega
  rw [hm]
  split
  · exact bin_spec _ _ _ (by omega) h2 h3
  · have : o.1 = N := by have := h2.2.1; omega
    rw [this] at h2 h3
    exact ⟨h2, h3⟩
end Mine
end
section
open PySem PySem.W PyProof.Rows PySem.Calls
namespace Mine
/-- one pass of the sort over a line of spots, by the weights of the spots -/
def passOf (W : Nat → Int) (b : Bool) (ls : List Nat) : List Nat :=
  katRev b ((evT (byW fun i => W ((katRev b ls).getD i 0)) (kas_sort ls.length)).toList.map fun i => (katRev b ls).getD i 0)
theorem katRev_perm {α : Type} (b : Bool) (l : List α) : (katRev b l).Perm l := by
  unfold katRev
  split
  · exact List.reverse_perm l
  · exact List.Perm.refl l
theorem map_getD_range (ls : List Nat) : (List.range ls.length).map (fun i => ls.getD i 0) = ls := by
  apply List.ext_getElem
  · simp
  · intro i h1 h2
    simp [h2]
theorem passOf_perm (W : Nat → Int) (b : Bool) (ls : List Nat) (h : 1 ≤ ls.length) : (passOf W b ls).Perm ls := by
  unfold passOf
  refine (katRev_perm b _).trans ?_
  have F := (sort_spec (r := fun i => W ((katRev b ls).getD i 0)) h).1.2.2.2.2
  refine (F.map _).trans ?_
  have e := map_getD_range (katRev b ls)
  rw [kat_len] at e
  rw [e]
  exact katRev_perm b ls
/-- the pass puts by weight, and leaves those alike as they stood -/
theorem passOf_pair {W : Nat → Int} {b : Bool} {ls : List Nat} {R : Nat → Nat → Prop} (h : 1 ≤ ls.length) (hR : ls.Pairwise R) :
    (passOf W b ls).Pairwise fun x y => (if b = true then W y < W x else W x < W y) ∨ (W x = W y ∧ R x y) := by
  have S := sort_spec (r := fun i => W ((katRev b ls).getD i 0)) h
  unfold passOf
  revert S
  generalize evT (byW fun i => W ((katRev b ls).getD i 0)) (kas_sort ls.length) = p
  rintro ⟨⟨hsz, -, hlt, -, -⟩, U⟩
  have hat : ∀ i (hi : i < p.toList.length), p.toList[i] = at' p i := fun i hi => by
    unfold at'
    simp only [Array.length_toList] at hi
    simp [Array.getD, hi]
  have hpl : p.toList.length = ls.length := by simp [hsz]
  have base : (p.toList.map fun i => (katRev b ls).getD i 0).Pairwise fun x y => W x < W y ∨ (W x = W y ∧ if b = true then R y x else R x y) := by
    rw [List.pairwise_iff_getElem]
    intro i j hi hj hij
    simp only [List.length_map] at hi hj
    simp only [List.getElem_map]
    rw [hat i hi, hat j hj]
    have u := U i j hij (by omega)
    have bi := hlt i (by omega)
    have bj := hlt j (by omega)
    rcases u with u | ⟨u1, u2⟩
    · exact .inl u
    · refine .inr ⟨u1, ?_⟩
      rw [List.pairwise_iff_getElem] at hR
      cases b with
      | false =>
        have := hR (at' p i) (at' p j) bi bj u2
        simpa [katRev, bi, bj] using this
      | true =>
        have := hR (ls.length - 1 - at' p j) (ls.length - 1 - at' p i) (by omega) (by omega) (by omega)
        simpa [katRev, bi, bj] using this
  cases b with
  | false => simpa [katRev] using base
  | true =>
    have e : katRev true (p.toList.map fun i => (katRev true ls).getD i 0) = (p.toList.map fun i => (katRev true ls).getD i 0).reverse := rfl
    rw [e, List.pairwise_reverse]
    refine base.imp ?_
    intro x y hxy
    simp only [if_true] at hxy ⊢
    rcases hxy with hxy | ⟨q1, q2⟩
    · exact .inl hxy
    · exact .inr ⟨q1.symm, q2⟩
/-- all passes, from the last key to the first -/
def passes (W : Int → Nat → Int) (n : Nat) : List (Int × Int) → List Nat
  | [] => List.range n
  | k :: ks => passOf (W k.1) (decide (k.2 < 0)) (passes W n ks)
def lexR (W : Int → Nat → Int) : List (Int × Int) → Nat → Nat → Prop
  | [], i, j => i < j
  | k :: ks, i, j => (if k.2 < 0 then W k.1 j < W k.1 i else W k.1 i < W k.1 j) ∨ (W k.1 i = W k.1 j ∧ lexR W ks i j)
theorem passes_perm (W : Int → Nat → Int) {n : Nat} (hn : 1 ≤ n) : ∀ ks, (passes W n ks).Perm (List.range n)
  | [] => List.Perm.refl _
  | k :: ks => by
    have ih := passes_perm W hn ks
    exact (passOf_perm _ _ _ (by rw [ih.length_eq]; simpa using hn)).trans ih
theorem passes_length (W : Int → Nat → Int) {n : Nat} (hn : 1 ≤ n) (ks) : (passes W n ks).length = n := by
  rw [(passes_perm W hn ks).length_eq]; simp
theorem passes_mem (W : Int → Nat → Int) {n : Nat} (hn : 1 ≤ n) {ks} {i : Nat} (h : i ∈ passes W n ks) : i < n := by
  have := (passes_perm W hn ks).mem_iff.mp h
  simpa using this
theorem passes_pair (W : Int → Nat → Int) {n : Nat} (hn : 1 ≤ n) : ∀ ks, (passes W n ks).Pairwise (lexR W ks)
  | [] => by
    show (List.range n).Pairwise (· < ·)
    exact List.pairwise_lt_range
  | k :: ks => by
    have ih := passes_pair W hn ks
    refine (passOf_pair (W := W k.1) (b := decide (k.2 < 0)) (by rw [passes_length W hn]; exact hn) ih).imp ?_
    intro x y h
    simpa [lexR] using h
theorem lexR_trans (W : Int → Nat → Int) : ∀ ks {i j k}, lexR W ks i j → lexR W ks j k → lexR W ks i k
  | [], i, j, k, h1, h2 => Nat.lt_trans h1 h2
  | x :: ks, i, j, k, h1, h2 => by
    unfold lexR at h1 h2 ⊢
    split at h1 <;> rename_i hd
    · rw [if_pos hd] at h2 ⊢
      rcases h1 with h1 | ⟨a1, b1⟩
      · left; omega
      · rcases h2 with h2 | ⟨a2, b2⟩
        · left; omega
        · exact .inr ⟨by omega, lexR_trans W ks b1 b2⟩
    · rw [if_neg hd] at h2 ⊢
      rcases h1 with h1 | ⟨a1, b1⟩
      · left; omega
      · rcases h2 with h2 | ⟨a2, b2⟩
        · left; omega
        · exact .inr ⟨by omega, lexR_trans W ks b1 b2⟩
theorem lexR_irr (W : Int → Nat → Int) : ∀ ks {i}, ¬ lexR W ks i i
  | [], i, h => Nat.lt_irrefl _ h
  | x :: ks, i, h => by
    unfold lexR at h
    rcases h with h | ⟨-, h⟩
    · split at h <;> omega
    · exact lexR_irr W ks h
/-- the weight of a cell: more handlers are less, then the number -/
def weigh (M : Int) (c : Nat × Int) : Int := if c.1 = 0 then c.2 else if c.1 = 1 then c.2 - (2 * M + 1) else c.2 - 2 * (2 * M + 1)
theorem weigh_lt {M : Int} {a b : Nat × Int} (ha : a.1 ≤ 2) (hb : b.1 ≤ 2) (h1 : -M ≤ a.2 ∧ a.2 ≤ M) (h2 : -M ≤ b.2 ∧ b.2 ≤ M) : weigh M a < weigh M b ↔ (b.1 < a.1 ∨ (a.1 = b.1 ∧ a.2 < b.2)) := by
  unfold weigh
  repeat' split
  all_goals omega
theorem weigh_eq {M : Int} {a b : Nat × Int} (ha : a.1 ≤ 2) (hb : b.1 ≤ 2) (h1 : -M ≤ a.2 ∧ a.2 ≤ M) (h2 : -M ≤ b.2 ∧ b.2 ≤ M) : weigh M a = weigh M b ↔ (a.1 = b.1 ∧ a.2 = b.2) := by
  unfold weigh
  repeat' split
  all_goals omega
def Within (M : Int) (r : Row) : Prop := ∀ c ∈ r, -M ≤ c.2 ∧ c.2 ≤ M
theorem within_row : ∀ r : Row, ∃ M, 0 ≤ M ∧ Within M r
  | [] => ⟨0, Int.le_refl _, fun _ h => nomatch h⟩
  | c :: r => by
    obtain ⟨M, h0, h⟩ := within_row r
    refine ⟨M + c.2.natAbs, by omega, fun d hd => ?_⟩
    rcases List.mem_cons.mp hd with rfl | hd
    · omega
    · have := h d hd; omega
theorem within_all : ∀ rs : List Row, ∃ M, 0 ≤ M ∧ ∀ r ∈ rs, Within M r
  | [] => ⟨0, Int.le_refl _, fun _ h => nomatch h⟩
  | r :: rs => by
    obtain ⟨M, h0, h⟩ := within_all rs
    obtain ⟨M', h0', h'⟩ := within_row r
    refine ⟨M + M', by omega, fun d hd c hc => ?_⟩
    rcases List.mem_cons.mp hd with rfl | hd
    · have := h' c hc; omega
    · have := h d hd c hc; omega
/-- the weight of a spot in a column -/
def weightAt (M : Int) (rs : List Row) (p : Int) (i : Nat) : Int := weigh M (cellAt (rs.getD i []) p)
theorem ahead_cons (p d : Int) (ks : List (Int × Int)) (l r : Row) : ahead ((p, d) :: ks) l r =
    if (cellAt l p).1 < (cellAt r p).1 then decide (0 < -d)
    else if (cellAt r p).1 < (cellAt l p).1 ∨ (cellAt l p).2 < (cellAt r p).2 then decide (-d < 0)
    else if (cellAt r p).2 < (cellAt l p).2 then decide (d < 0)
    else ahead ks l r := by
  unfold ahead
  simp only [meant]
  by_cases h1 : (cellAt l p).1 < (cellAt r p).1
  · rw [if_pos h1, if_pos h1, if_neg (show ¬ (cellAt r p).1 < (cellAt l p).1 by omega), if_pos (Or.inl h1)]
  · rw [if_neg h1, if_neg h1]
    by_cases h2 : (cellAt r p).1 < (cellAt l p).1 ∨ (cellAt l p).2 < (cellAt r p).2
    · rw [if_pos h2, if_pos h2]
    · rw [if_neg h2, if_neg h2]
      by_cases h3 : (cellAt r p).2 < (cellAt l p).2
      · rw [if_pos h3, if_pos h3]
      · rw [if_neg h3, if_neg h3]
        rw [if_neg (show ¬ (cellAt r p).1 < (cellAt l p).1 by omega), if_neg (show ¬ ((cellAt l p).1 < (cellAt r p).1 ∨ (cellAt r p).2 < (cellAt l p).2) by omega), if_neg (show ¬ (cellAt l p).2 < (cellAt r p).2 by omega)]
theorem ahead_lex {M : Int} {rs : List Row} (hro : ∀ r ∈ rs, RowOk r) (hw : ∀ r ∈ rs, Within M r) {i j : Nat} (hi : i < rs.length) (hj : j < i) : ∀ ks : List (Int × Int), (∀ k ∈ ks, KeyGood k) →
    (ahOf ks rs i j = true → lexR (weightAt M rs) ks i j) ∧ (ahOf ks rs i j = false → lexR (weightAt M rs) ks j i)
  | [], _ => by
    refine ⟨fun h => ?_, fun _ => hj⟩
    simp [ahOf, ahead, meant] at h
  | (p, d) :: ks, hk => by
    obtain ⟨ih1, ih2⟩ := ahead_lex hro hw hi hj ks fun k h => hk k (.tail _ h)
    obtain ⟨⟨p0, p3⟩, hd⟩ := hk (p, d) (.head _)
    have mi : rs.getD i [] ∈ rs := getD_mem hi
    have mj : rs.getD j [] ∈ rs := getD_mem (Nat.lt_trans hj hi)
    obtain ⟨gi, fi⟩ := cell_get (p := p) (hro _ mi) p0 p3
    obtain ⟨gj, fj⟩ := cell_get (p := p) (hro _ mj) p0 p3
    have wi := hw _ mi _ (List.mem_of_getElem? gi)
    have wj := hw _ mj _ (List.mem_of_getElem? gj)
    have l1 := weigh_lt fi fj wi wj
    have l2 := weigh_lt fj fi wj wi
    have e1 := weigh_eq fi fj wi wj
    have e2 := weigh_eq fj fi wj wi
    have ea : ahOf ((p, d) :: ks) rs i j = _ := ahead_cons p d ks (rs.getD i []) (rs.getD j [])
    rw [ea]
    unfold lexR
    show (_ → (if d < 0 then weigh M (cellAt (rs.getD j []) p) < weigh M (cellAt (rs.getD i []) p) else weigh M (cellAt (rs.getD i []) p) < weigh M (cellAt (rs.getD j []) p)) ∨ (weigh M (cellAt (rs.getD i []) p) = weigh M (cellAt (rs.getD j []) p) ∧ _)) ∧
      (_ → (if d < 0 then weigh M (cellAt (rs.getD i []) p) < weigh M (cellAt (rs.getD j []) p) else weigh M (cellAt (rs.getD j []) p) < weigh M (cellAt (rs.getD i []) p)) ∨ (weigh M (cellAt (rs.getD j []) p) = weigh M (cellAt (rs.getD i []) p) ∧ _))
    rw [l1, l2, e1, e2]
    revert ih1 ih2
    unfold ahOf
    generalize cellAt (rs.getD i []) p = x
    generalize cellAt (rs.getD j []) p = y
    intro ih1 ih2
    dsimp only at hd
    by_cases c1 : x.1 < y.1
    · rw [if_pos c1]
      rcases hd with rfl | rfl
      · simp; omega
      · simp; omega
    · rw [if_neg c1]
      by_cases c2 : y.1 < x.1 ∨ x.2 < y.2
      · rw [if_pos c2]
        rcases hd with rfl | rfl
        · simp; omega
        · simp; omega
      · rw [if_neg c2]
        by_cases c3 : y.2 < x.2
        · rw [if_pos c3]
          rcases hd with rfl | rfl
          · simp; omega
          · simp; omega
        · rw [if_neg c3]
          exact ⟨fun h => .inr ⟨by omega, ih1 h⟩, fun h => .inr ⟨by omega, ih2 h⟩⟩
theorem downTo_spec (ah : Nat → Bool) (line : List Nat) : ∀ k, (∀ i, downTo ah line k ≤ i → i < k → ah (line.getD i 0) = true) ∧ (0 < downTo ah line k → ah (line.getD (downTo ah line k - 1) 0) = false)
  | 0 => ⟨fun i _ h => by omega, fun h => by simp [downTo] at h⟩
  | k + 1 => by
    obtain ⟨h1, h2⟩ := downTo_spec ah line k
    unfold downTo
    split
    · rename_i hb
      refine ⟨fun i a b => ?_, h2⟩
      rcases Nat.lt_or_ge i k with q | q
      · exact h1 i a q
      · have : i = k := by omega
        rw [this]; exact hb
    · rename_i hb
      exact ⟨fun i a b => by omega, fun _ => by simpa using hb⟩
theorem insStep_perm (ah : Nat → Nat → Bool) (line : List Nat) (i : Nat) : (insStep ah line i).Perm (i :: line) := by
  unfold insStep
  refine List.perm_middle.trans ?_
  rw [List.take_append_drop]
theorem lineOf_perm (ah : Nat → Nat → Bool) : ∀ n, (lineOf ah n).Perm (List.range n)
  | 0 => List.Perm.refl _
  | n + 1 => by
    rw [lineOf_succ, List.range_succ]
    refine (insStep_perm ah _ n).trans ?_
    refine ((lineOf_perm ah n).cons n).trans ?_
    exact List.perm_append_singleton n (List.range n) |>.symm
theorem lineOf_pair {M : Int} {rs : List Row} {ks : List (Int × Int)} (hro : ∀ r ∈ rs, RowOk r) (hw : ∀ r ∈ rs, Within M r) (hk : ∀ k ∈ ks, KeyGood k) : ∀ n, n ≤ rs.length → (lineOf (ahOf ks rs) n).Pairwise (lexR (weightAt M rs) ks)
  | 0, _ => List.Pairwise.nil
  | n + 1, hn => by
    have ih := lineOf_pair hro hw hk n (by omega)
    rw [lineOf_succ]
    unfold insStep
    have hmem := lineOf_mem (ahOf ks rs) n
    revert ih hmem
    generalize lineOf (ahOf ks rs) n = line
    intro ih hmem
    obtain ⟨d1, d2⟩ := downTo_spec (ahOf ks rs n) line line.length
    have d0 := downTo_le (ahOf ks rs n) line line.length
    revert d0 d2 d1
    generalize downTo (ahOf ks rs n) line line.length = k
    intro d1 d2 d0
    have ihd := (List.take_append_drop k line ▸ ih)
    rw [List.pairwise_append] at ihd
    obtain ⟨p1, p2, p3⟩ := ihd
    have below : ∀ x ∈ line.take k, lexR (weightAt M rs) ks x n := by
      intro x hx
      have hk0 : 0 < k := by
        rcases Nat.eq_zero_or_pos k with q | q
        · subst q; simp at hx
        · exact q
      have hlk : k - 1 < line.length := by omega
      have hl := d2 hk0
      have hml : line.getD (k - 1) 0 ∈ line := getD_mem hlk
      have last := (ahead_lex hro hw (i := n) (by omega) (hmem _ hml) ks hk).2 hl
      obtain ⟨q, hq, rfl⟩ := List.mem_iff_getElem.mp hx
      have hq' : q < k := by simp at hq; omega
      rw [List.getElem_take]
      have eg : line.getD (k - 1) 0 = line[k - 1] := by simp [hlk]
      rw [eg] at last
      rcases Nat.lt_or_ge q (k - 1) with c | c
      · exact lexR_trans _ ks ((List.pairwise_iff_getElem.mp ih) q (k - 1) (by omega) hlk c) last
      · have : q = k - 1 := by omega
        subst this
        exact last
    have above : ∀ x ∈ line.drop k, lexR (weightAt M rs) ks n x := by
      intro x hx
      obtain ⟨q, hq, rfl⟩ := List.mem_iff_getElem.mp hx
      have hq' : k + q < line.length := by simp at hq; omega
      rw [List.getElem_drop]
      have eg : line.getD (k + q) 0 = line[k + q] := by simp [hq']
      have := d1 (k + q) (by omega) hq'
      rw [← eg]
      exact (ahead_lex hro hw (i := n) (by omega) (hmem _ (getD_mem hq')) ks hk).1 this
    rw [List.pairwise_append]
    refine ⟨p1, List.pairwise_cons.mpr ⟨above, p2⟩, fun a ha b hb => ?_⟩
    rcases List.mem_cons.mp hb with rfl | hb
    · exact below a ha
    · exact p3 a ha b hb
/-- the plain law: putting in one by one gives what the passes give -/
theorem line_is_passes {M : Int} {rs : List Row} {ks : List (Int × Int)} (hro : ∀ r ∈ rs, RowOk r) (hw : ∀ r ∈ rs, Within M r) (hk : ∀ k ∈ ks, KeyGood k) (hn : 1 ≤ rs.length) :
    lineOf (ahOf ks rs) rs.length = passes (weightAt M rs) rs.length ks := by
  refine List.Perm.eq_of_pairwise (le := lexR (weightAt M rs) ks) (fun a b _ _ h1 h2 => absurd (lexR_trans _ ks h1 h2) (lexR_irr _ ks)) (lineOf_pair hro hw hk _ (Nat.le_refl _)) (passes_pair _ hn ks) ?_
  exact (lineOf_perm _ _).trans (passes_perm _ hn ks).symm
end Mine
end
section
open PySem PySem.W PyProof.Rows PySem.Calls
namespace Mine
/-- all that a tree may ask is in P, all that it may give is in O -/
def OkT {α : Type} (P : Nat → Prop) (O : α → Prop) : KasT α → Prop
  | .ret a => O a
  | .ask i j k => P i ∧ P j ∧ ∀ b, OkT P O (k b)
theorem OkT.bind {α β : Type} {P : Nat → Prop} {O : α → Prop} {O' : β → Prop} {g : α → KasT β} (hg : ∀ a, O a → OkT P O' (g a)) : ∀ {t : KasT α}, OkT P O t → OkT P O' (t.bind g)
  | .ret a, h => hg a h
  | .ask _ _ _, h => ⟨h.1, h.2.1, fun b => OkT.bind hg (h.2.2 b)⟩
theorem okT_wp {α : Type} {N : Nat} {f : Nat → Nat → Bool} {cmp : Nat → Nat → (Bool → Shared → Prop) → Shared → Prop} {Q : α → Shared → Prop} {s : Shared} (hc : ∀ i j C, i < N → j < N → C (f i j) s → cmp i j C s) :
    ∀ {t : KasT α}, OkT (· < N) (fun _ => True) t → Q (evT f t) s → t.kasWp cmp Q s
  | .ret _, _, h => h
  | .ask i j k, o, h => hc i j _ o.1 o.2.1 (okT_wp hc (o.2.2 _) h)
def LtAll (N : Nat) (p : Array Nat) : Prop := ∀ x ∈ p.toList, x < N
theorem LtAll.at {N : Nat} {p : Array Nat} (h : LtAll N p) (hN : 0 < N) (i : Nat) : p.getD i 0 < N := by
  by_cases hi : i < p.size
  · have : p.getD i 0 = p[i] := by simp [Array.getD, hi]
    rw [this]
    exact h _ (by simp)
  · have : p.getD i 0 = 0 := by simp [Array.getD, hi]
    omega
theorem LtAll.rev {N : Nat} {p : Array Nat} (h : LtAll N p) (i j : Nat) : LtAll N (kas_rev p i j) := fun x hx => h x ((Array.perm_iff_toList_perm.mp (mirror_perm p i j _)).mem_iff.mp hx)
theorem LtAll.bub {N : Nat} {p : Array Nat} (h : LtAll N p) (i j : Nat) : LtAll N (bubble p i j) := fun x hx => h x ((Array.perm_iff_toList_perm.mp (bubble_perm p i j)).mem_iff.mp hx)
variable {N : Nat}
theorem ok_asc {p : Array Nat} (h : LtAll N p) (hN : 0 < N) : ∀ f n, OkT (· < N) (fun _ => True) (kas_asc p f n)
  | 0, _ => trivial
  | f + 1, n => ⟨h.at hN _, h.at hN _, fun b => by
    cases b with
    | true => exact trivial
    | false => exact ok_asc h hN f (n + 1)⟩
theorem ok_desc (hN : 0 < N) : ∀ f (p : Array Nat) n q, LtAll N p → OkT (· < N) (fun r : Array Nat × Nat × Nat => LtAll N r.1) (kas_desc f p n q)
  | 0, _, _, _, h => h
  | f + 1, p, n, q, h => ⟨h.at hN _, h.at hN _, fun b => by
    cases b with
    | true =>
      show OkT _ _ (if q > 0 then kas_desc f (kas_rev p (n - (q + 1)) n) (n + 1) 0 else kas_desc f p (n + 1) 0)
      split
      · exact ok_desc hN f _ _ _ (h.rev _ _)
      · exact ok_desc hN f _ _ _ h
    | false =>
      refine ⟨h.at hN _, h.at hN _, fun d => ?_⟩
      cases d with
      | true => exact h
      | false => exact ok_desc hN f _ _ _ h⟩
theorem ok_tail3 (hN : 0 < N) {p : Array Nat} (h : LtAll N p) (n M : Nat) : OkT (· < N) (fun r : Nat × Array Nat => LtAll N r.2) (kas_tail3 n M p) := by
  unfold kas_tail3
  refine OkT.bind (O := fun _ => True) (fun _ _ => ?_) (ok_asc (h.rev _ _) hN _ _)
  exact h.rev _ _
theorem ok_descPart (hN : 0 < N) {p : Array Nat} (h : LtAll N p) (n M : Nat) : OkT (· < N) (fun r : Nat × Array Nat => LtAll N r.2) (kas_descPart n M p) := by
  refine OkT.bind (fun r hr => ?_) (ok_desc hN _ _ _ _ h)
  split
  · exact ok_tail3 hN (hr.rev _ _) _ _
  · exact ok_tail3 hN hr _ _
theorem ok_count (hN : 0 < N) {p : Array Nat} (h : LtAll N p) (M : Nat) : OkT (· < N) (fun r : Nat × Array Nat => LtAll N r.2) (kas_count M p) := by
  refine OkT.bind (fun n _ => ?_) (ok_asc h hN _ _)
  split
  · exact h
  · split
    · refine ⟨h.at hN _, h.at hN _, fun b => ?_⟩
      cases b with
      | true => exact h
      | false => exact ok_descPart hN (h.rev _ _) _ _
    · exact ok_descPart hN h _ _
theorem ok_place (hN : 0 < N) {p : Array Nat} (h : LtAll N p) (k : Nat) : ∀ f l u, OkT (· < N) (fun _ => True) (kas_place p k f l u)
  | 0, _, _ => trivial
  | f + 1, l, u => by
    show OkT _ _ (if l ≥ u then .ret l else .ask (p.getD k 0) (p.getD ((l + u) / 2) 0) fun c => if c = true then kas_place p k f l ((l + u) / 2) else kas_place p k f ((l + u) / 2 + 1) u)
    split
    · exact trivial
    · refine ⟨h.at hN _, h.at hN _, fun b => ?_⟩
      cases b with
      | true => exact ok_place hN h k f _ _
      | false => exact ok_place hN h k f _ _
theorem ok_bin (hN : 0 < N) : ∀ f (p : Array Nat) k, LtAll N p → OkT (· < N) (fun _ => True) (kas_bin f p k)
  | 0, _, _, _ => trivial
  | f + 1, p, k, h => OkT.bind (fun l _ => ok_bin hN f _ _ (h.bub _ _)) (ok_place hN h k _ _ _)
theorem ok_sort (hN : 0 < N) : OkT (· < N) (fun _ => True) (kas_sort N) := by
  refine OkT.bind (fun r hr => ?_) (ok_count hN (fun x hx => by simpa using hx) N)
  split
  · exact ok_bin hN _ _ _ hr
  · exact trivial

/-- the key of a cell in the heap: its handlers turned, and its number -/
def WgtIs (news : List (Addr × Obj)) (v : Value) (c : Nat × Int) : Prop := ∃ T n t t', v = .ref T ∧ (T, tupO [.int (-(c.1 : Int)) t, .int c.2 t'] n) ∈ news
theorem WgtIs.mono {news news' : List (Addr × Obj)} (hs : ∀ p ∈ news, p ∈ news') {v : Value} {c : Nat × Int} : WgtIs news v c → WgtIs news' v c
  | ⟨T, n, t, t', e, h⟩ => ⟨T, n, t, t', e, hs _ h⟩
section
variable {prog : Program} {w : World} {A : Around} {E : Value → Shared → Prop} {s : Shared} {h₀ : Heap} {L : Addr} {m : Str → Option Value} {news : List (Addr × Obj)}
theorem wgt_kind {ks : List Value} {cs : List (Nat × Int)} {Q : SortKind → Shared → Prop} (N : News h₀ L s.heap news) (hk : All2 (WgtIs news) ks cs) (hne : 0 < cs.length) (h : Q (tuples' true) s) : wpAny (model prog w) A (keyKind' ks.toArray) Q E s := by
  have tups : ∃ fs, KatTups s.heap ks fs ∧ fs.length = cs.length ∧ ∀ v ∈ fs, ∃ x t, v = Value.int x t := by
    clear h hne
    induction hk with
    | nil => exact ⟨[], KatTups.nil, rfl, fun _ h => nomatch h⟩
    | @cons v c _ _ hv hr ih =>
      obtain ⟨T, n, t, t', rfl, hm⟩ := hv
      obtain ⟨fs, i1, i2, i3⟩ := ih
      refine ⟨.int (-(c.1 : Int)) t :: fs, KatTups.cons (N _ hm).1 rfl rfl rfl i1, by simp [i2], fun v hv => ?_⟩
      rcases List.mem_cons.mp hv with rfl | hv
      · exact ⟨_, _, rfl⟩
      · exact i3 v hv
  obtain ⟨fs, i1, i2, i3⟩ := tups
  refine kat_kind (T := .type "int") i1 (by omega) (fun v hv => ?_) rfl h
  obtain ⟨x, t, rfl⟩ := i3 v hv
  exact Looks.of_pure rfl
theorem wgt_lt {x y : Value} {c d : Nat × Int} {M : Int} {Q : Bool → Shared → Prop} (N : News h₀ L s.heap news) (hx : WgtIs news x c) (hy : WgtIs news y d) (hc : c.1 ≤ 2) (hd : d.1 ≤ 2) (h1 : -M ≤ c.2 ∧ c.2 ≤ M) (h2 : -M ≤ d.2 ∧ d.2 ≤ M)
    (h : Q (decide (weigh M c < weigh M d)) s) : wpAny (model prog w) A (keyLt' (tuples' true) x y) Q E s := by
  obtain ⟨T, n, t, t', rfl, hm⟩ := hx
  obtain ⟨T2, n2, t2, t2', rfl, hm2⟩ := hy
  have hl := weigh_lt hc hd h1 h2
  refine kat_lt (N _ hm).1 rfl (N _ hm2).1 rfl ?_
  show KatLex prog w A true (decide (2 < 2)) Q [(.int (-(c.1 : Int)) t, .int (-(d.1 : Int)) t2), (.int c.2 t', .int d.2 t2')] 0 s
  refine kat_cons (wpAny_eqBool_int ?_)
  by_cases e1 : (-(c.1 : Int)) = -(d.1 : Int)
  · rw [show ((-(c.1 : Int)) == -(d.1 : Int)) = true by simpa using e1]
    refine kat_yes (kat_cons (wpAny_eqBool_int ?_))
    by_cases e2 : c.2 = d.2
    · rw [show (c.2 == d.2) = true by simpa using e2]
      refine kat_yes (kat_nil ?_)
      have : decide (weigh M c < weigh M d) = false := decide_eq_false (by rw [hl]; omega)
      rw [this] at h
      exact h
    · rw [show (c.2 == d.2) = false by simpa using e2]
      refine kat_no ?_
      show wpAny (model prog w) A (oneLt' false (.int c.2 t') (.int d.2 t2')) Q _ s
      refine kat_one _ _ (PyProof.Rows.lt_int ?_)
      have : decide (weigh M c < weigh M d) = decide (c.2 < d.2) := decide_eq_decide.mpr (by rw [hl]; omega)
      rw [this] at h
      exact h
  · rw [show ((-(c.1 : Int)) == -(d.1 : Int)) = false by simpa using e1]
    refine kat_no ?_
    show wpAny (model prog w) A (oneLt' true (.int (-(c.1 : Int)) t) (.int (-(d.1 : Int)) t2)) Q _ s
    refine oneLt_int ?_
    have : decide (weigh M c < weigh M d) = decide ((-(c.1 : Int)) < -(d.1 : Int)) := decide_eq_decide.mpr (by rw [hl]; omega)
    rw [this] at h
    exact h

/-- the keys of a sort, one by one -/
theorem kat_all {γ : Type} (Out : List (Addr × Obj) → Value → γ → Prop) (R : Value → γ → Prop) (hmono : ∀ a b v c, (∀ p ∈ a, p ∈ b) → Out a v c → Out b v c) {kS : Addr} {f : Value} {Fin : List Value → Nat → Shared → Prop}
    {vs : List Value} {cs : List γ} (hv : All2 R vs cs) (hkS : ∀ p ∈ news, p.1 ≠ kS)
    (step : ∀ v c, R v c → c ∈ cs → ∀ tl o h tk, Apart ((kS, o) :: news) tl → Fr h₀ L h m → News h₀ L h ((kS, o) :: news ++ tl) →
      wpAny (model prog w) A (call f [v]) (ElemOut h₀ L m Out s ((kS, o) :: news ++ tl) tl c) (fun _ _ => False) { s with heap := h, toks := tk })
    (fin : ∀ ks tl e h tk, All2 (Out tl) ks cs → Apart ((kS, seqObj "list" (List.toArray ks) e) :: news) tl → Fr h₀ L h m → News h₀ L h ((kS, seqObj "list" (List.toArray ks) e) :: news ++ tl) → Fin ks e { s with heap := h, toks := tk }) 
    {h1 : Heap} (F : Fr h₀ L h1 m) (N : News h₀ L h1 ((kS, seqObj "list" #[] 0) :: news)) : KatKeys prog w A h₀ L m kS f Fin vs [] 0 { s with heap := h1 } := by
  have key : ∀ (vs : List Value) (cs2 cs1 : List γ) (ks : List Value) tl e h tk, cs = cs1 ++ cs2 → All2 R vs cs2 → All2 (Out tl) ks cs1 → Apart ((kS, seqObj "list" (List.toArray ks) e) :: news) tl → Fr h₀ L h m → News h₀ L h ((kS, seqObj "list" (List.toArray ks) e) :: news ++ tl) →
      KatKeys prog w A h₀ L m kS f Fin vs ks e { s with heap := h, toks := tk } := by
    intro vs
    induction vs with
    | nil =>
      intro cs2 cs1 ks tl e h tk hcs hr ho ha F N
      cases hr
      rw [List.append_nil] at hcs
      exact KatKeys.nil (fin ks tl e h tk (hcs ▸ ho) ha F N)
    | cons v vs ih =>
      intro cs2 cs1 ks tl e h tk hcs hr ho ha F N
      cases hr with
      | @cons _ c _ cs2' hv hr =>
      refine KatKeys.cons (wpAny_mono (step v c hv (by rw [hcs]; exact List.mem_append_right _ (.head _)) tl _ h tk ha F N) (fun k s' hk => ?_) fun _ _ x => x)
      obtain ⟨h', tk', tl', rfl, F', N', A', O'⟩ := hk
      have A1 : Apart ((kS, seqObj "list" (List.toArray ks) e) :: news) (tl ++ tl') := ha.app (A'.sub fun p hp => List.mem_append_left _ hp)
      have e1 : (kS, seqObj "list" (List.toArray ks) e) :: news ++ tl ++ tl' = (kS, seqObj "list" (List.toArray ks) e) :: (news ++ (tl ++ tl')) := by simp
      rw [e1] at N'
      refine KatBack.intro F' N' (UpdF.head fun p hp => ?_) fun h2 c2 F2 N2 => ?_
      · rcases List.mem_append.mp hp with hp | hp
        · exact hkS p hp
        · exact Ne.symm (A1 _ (.head _) p hp)
      · refine ih cs2' (cs1 ++ [c]) (ks ++ [k]) (tl ++ tl') c2 h2 tk' (by rw [hcs]; simp) hr (All2.snoc O' (ho.mono fun _ _ => hmono _ _ _ _ fun p hp => List.mem_append_left _ hp)) (fun q hq p hp => ?_) F2 N2
        rcases List.mem_cons.mp hq with rfl | hq
        · exact A1 _ (.head _) p hp
        · exact A1 _ (.tail _ hq) p hp
  exact key vs cs [] [] [] 0 h1 s.toks rfl hv .nil Apart.nil F (by simpa using N)
end
end Mine
end
section
open PySem PySem.W PyProof.Rows PySem.Calls
namespace Mine
section
variable {prog : Program} {w : World} {A : Around} {E : Value → Shared → Prop} {h₀ : Heap} {env : Env} {target : PySem.Expr} {body : List Stmt} {Q : Flow → Shared → Prop} {s : Shared} {I : Addr} {cl : String} {keep : List (Addr × Obj)}
theorem unrPostW_mono {L : Addr} {its : List (Addr × Obj)} {R R' : (Str → Option Value) → List (Addr × Obj) → Prop} {f : Flow} {s₁ s₂ : Shared} (h : UnrPostW h₀ L s₁ its R Q f s₂) (hr : ∀ m n, R m n → R' m n) : UnrPostW h₀ L s₁ its R' Q f s₂ := by
  have go : UnrEndW h₀ L s₁ its R s₂ → UnrEndW h₀ L s₁ its R' s₂ := fun ⟨h', tk, m', n', a, b, c, d, e⟩ => ⟨h', tk, m', n', a, b, c, d, hr _ _ e⟩
  cases f <;> first | exact h | exact go h
/-- a loop over a list of known things, whose ledger may change from turn to turn -/
theorem itemsRest_loop {β : Type} {R : Value → β → Prop} (J : (Str → Option Value) → List (Addr × Obj) → List β → Prop) {zs : List Value} {js : List β} (hz : All2 R zs js) {m₀ : Str → Option Value} {news₀ : List (Addr × Obj)} (h0 : J m₀ news₀ [])
    (zero : ∀ m1 news1, J m1 news1 js.reverse → ∀ h tk, Fr h₀ env.locals h m1 → News h₀ env.locals h news1 → Q .next { s with heap := h, toks := tk })
    (step : ∀ v k dn m1 news1, R v k → k ∈ js → J m1 news1 dn → ∀ h tk oi, Fr h₀ env.locals h m1 → News h₀ env.locals h ((I, oi) :: news1) →
      wpAny (model prog w) A (assign target env v) (fun _ s₂ => wpAny (model prog w) A (execs body env) (UnrPostW h₀ env.locals { s with heap := h, toks := tk } [(I, oi)] (fun m' n' => SubL keep n' ∧ J m' n' (k :: dn)) Q) E s₂) E { s with heap := h, toks := tk }) :
    ItemsRest prog w A E h₀ env target body Q s [(I, cl)] keep (zs.map .val) m₀ news₀ := by
  have key : ∀ (zs : List Value) (js2 dn : List β) m1 news1, js = dn.reverse ++ js2 → All2 R zs js2 → J m1 news1 dn → ItemsRest prog w A E h₀ env target body Q s [(I, cl)] keep (zs.map .val) m1 news1 := by
    intro zs
    induction zs with
    | nil =>
      intro js2 dn m1 news1 e hr hJ
      cases hr
      rw [List.append_nil] at e
      refine ItemsRest.zero (zero m1 news1 ?_)
      rw [e, List.reverse_reverse]
      exact hJ
    | cons v zs ih =>
      intro js2 dn m1 news1 e hr hJ
      cases hr with
      | @cons _ k _ js3 hv hr =>
      rw [List.map_cons]
      refine ItemsRest.val ?_
      intro h tk F
      refine AllObj.cons ?_
      intro oi hoi
      refine AllObj.nil ?_
      intro N
      have st := step v k dn m1 news1 hv (by rw [e]; exact List.mem_append_right _ (.head _)) hJ h tk oi F N
      refine wpAny_mono st (fun _ s2 h2 => wpAny_mono h2 (fun f s3 h3 => ?_) fun _ _ x => x) fun _ _ x => x
      refine unrPostW_mono h3 fun m' n' hh => ⟨hh.1, ?_⟩
      exact ih js3 (k :: dn) m' n' (by rw [e]; simp) hr hh.2
  exact key zs js [] m₀ news₀ rfl hz h0
end
theorem All2.rev {α β : Type} {R : α → β → Prop} : ∀ {as : List α} {bs : List β}, All2 R as bs → All2 R as.reverse bs.reverse
  | _, _, .nil => .nil
  | _, _, .cons x y => by
    rw [List.reverse_cons, List.reverse_cons]
    exact All2.snoc x y.rev
theorem ints_ofAre : ∀ {vs : List Value} {ns : List Nat}, IntsAre vs (ns.map fun (i : Nat) => (0 : Int) + (i : Int)) → IntsOf vs ns
  | vs, [], h => by cases h; exact .nil
  | vs, n :: ns, h => by
    rw [List.map_cons] at h
    cases h with
    | cons _ t hr => exact .cons ⟨t, by rw [Int.zero_add]⟩ (ints_ofAre hr)
theorem ints_range {vs : List Value} {n : Nat} (h : IntsAre vs (rangeKs 0 n)) : IntsOf vs (List.range n) := ints_ofAre h
end Mine
end
section
open PySem PySem.W PyProof.Rows PySem.Calls
namespace Mine
theorem updF_app {P : Addr} {o : Obj} {rest : List (Addr × Obj)} (h2 : ∀ q ∈ rest, q.1 ≠ P) : ∀ {own : List (Addr × Obj)}, (∀ q ∈ own, q.1 ≠ P) → UpdF P o (own ++ (P, o) :: rest) (fun o' => own ++ (P, o') :: rest)
  | [], _ => UpdF.head h2
  | p :: own, h1 => UpdF.tail (h1 p (.head _)) (updF_app h2 fun q hq => h1 q (.tail _ hq))
/-- the table of the codes that a def has made: none yet, or the one of the lambda -/
def TabIs (pos : Pos) (qual : Str) (ps : Array Value) (ex : List (Addr × Obj)) : Prop :=
  (ps = #[] ∧ ex = []) ∨ ∃ c' oc vs t, ps = #[rawInt pos.line, rawInt pos.col, .ref c'] ∧ ex = [(c', oc)] ∧ oc.data = .fields vs ∧ vs[1]? = some (.str qual t)
theorem codeRec_mem {h₀ h : Heap} {L c' : Addr} {oc : Obj} {vs : Array Value} {t : Tok} {qual : Str} {news : List (Addr × Obj)} (N : News h₀ L h news) (hm : (c', oc) ∈ news) (hd : oc.data = .fields vs) (hv : vs[1]? = some (.str qual t)) : h.CodeRec (.ref c') qual :=
  ⟨c', oc, vs, t, rfl, (N _ hm).1, hd, hv⟩
section
variable {M : Model} {A : Around} {E : Value → Shared → Prop} {s : Shared} {h₀ : Heap} {L a c P : Addr} {m mg mb : Str → Option Value} {cn : Str} {cs : Scope} {ccd : Value} {cl : List (Str × Addr)} {news own ex : List (Addr × Obj)}
  {p : Program} {loose : List Str} {mean : ExcName → Option Value} {params : Arguments} {body : PySem.Expr} {scope : Scope} {ps : Array Value} {pos : Pos} {clos : List (Str × Addr)} {Q : Value → Shared → Prop}
theorem lam_any (F : Fr h₀ L s.heap m) (N : News h₀ L s.heap (own ++ (P, tabObj ps) :: (ex ++ news))) (T : Top p loose mean mg mb h₀) (C : CodeHd h₀ c P) (hcd : ccd = .ref c) (hps : TabIs pos ((envX cn cs L a ccd cl).qual ++ "<lambda>") ps ex)
    (u1 : ∀ q ∈ own, q.1 ≠ P) (u2 : ∀ q ∈ ex ++ news, q.1 ≠ P)
    (hdef : defaultsOf params (envX cn cs L a ccd cl) = ([], [])) (hcl : closureFor scope (envX cn cs L a ccd cl) = pure clos)
    (h : ∀ f c' oc vs t ctv h' tk, Fr h₀ L h' m →
      News h₀ L h' ((f, kla_obj "<lambda>" ((envX cn cs L a ccd cl).qual ++ "<lambda>") params body scope clos ((mg "__name__").getD .none) c' ctv) :: (own ++ (P, tabObj #[rawInt pos.line, rawInt pos.col, .ref c']) :: (c', oc) :: news)) →
      oc.data = .fields vs → vs[1]? = some (.str ((envX cn cs L a ccd cl).qual ++ "<lambda>") t) → (∀ q ∈ own ++ (P, tabObj ps) :: (ex ++ news), q.1 < f) → c' < f →
      (ex = [(c', oc)] ∨ ∀ q ∈ own ++ (P, tabObj ps) :: (ex ++ news), q.1 < c') → Q (.ref f) { s with heap := h', toks := tk }) :
    wpAny M A (eval (.Lambda params body scope pos) (envX cn cs L a ccd cl)) Q E s := by
  refine kla_eval hdef ?_
  rcases hps with ⟨rfl, rfl⟩ | ⟨c', oc, vs, t, rfl, rfl, hd, hv⟩
  · refine kla_nest F N T C hcd (updF_app u2 u1) trivial rfl hcl ?_
    intro f c' oc vs t ctv h' tk F' N' hd hv l1 l2
    refine h f c' oc vs t ctv h' tk F' (fun q hq => N' q ?_) hd hv (fun q hq => Nat.lt_trans (l1 q hq) l2) l2 (.inr l1)
    simp only [List.mem_cons, List.mem_append, List.nil_append] at hq ⊢
    rcases hq with hq | hq | hq | hq | hq
    · exact .inl hq
    · exact .inr (.inr (.inl hq))
    · exact .inr (.inr (.inr (.inl hq)))
    · exact .inr (.inl hq)
    · exact .inr (.inr (.inr (.inr hq)))
  · refine kla_hit (c' := c') F N T C hcd (List.mem_append_right _ (.head _)) ?_ ?_ hcl ?_
    · simp [TriplesOk, rawInt]
    · simp [codeAmong, rawInt]
    intro f ctv h' tk F' N' l1
    exact h f c' oc vs t ctv h' tk F' N' hd hv l1 (l1 (c', oc) (List.mem_append_right _ (.tail _ (.head _)))) (.inl rfl)
end
end Mine
end
section
open PySem PySem.W PyProof.Rows PySem.Calls
namespace Mine
theorem allObj_of : ∀ {ws : List (Addr × String)} {k : List (Addr × Obj) → Prop}, (∀ its, Objs ws its → k its) → AllObj ws k
  | [], _, h => h [] trivial
  | w :: ws, k, h => AllObj.cons fun o ho => allObj_of fun its hi => h ((w.1, o) :: its) ⟨⟨rfl, ho⟩, hi⟩
section
variable {prog : Program} {w : World} {A : Around} {E : Value → Shared → Prop} {h₀ : Heap} {env : Env} {target : PySem.Expr} {body : List Stmt} {Q : Flow → Shared → Prop} {s : Shared} {ws : List (Addr × String)} {keep news : List (Addr × Obj)}
/-- a loop over two lists at once that leaves the ledger as it was -/
theorem itemsRest_zip {β : Type} {R1 R2 : Value → β → Prop} (J : (Str → Option Value) → Prop) (hk : SubL keep news)
    (zero : ∀ m1, J m1 → ∀ h tk, Fr h₀ env.locals h m1 → News h₀ env.locals h news → Q .next { s with heap := h, toks := tk }) 
    {xs ys : List Value} {js : List β} (r1 : All2 R1 xs js) (r2 : All2 R2 ys js) {m₀ : Str → Option Value} (h0 : J m₀)
    (step : ∀ x y b m1, R1 x b → R2 y b → b ∈ js → J m1 → ∀ T h tk its, IsTup h T #[x, y] → (∀ q ∈ its, q.1 ∈ ws.map (·.1)) → Fr h₀ env.locals h m1 → News h₀ env.locals h (its ++ news) →
      wpAny (model prog w) A (assign target env (.ref T)) (fun _ s₂ => wpAny (model prog w) A (execs body env) (UnrPostW h₀ env.locals { s with heap := h, toks := tk } its (fun m' n' => n' = news ∧ J m') Q) E s₂) E { s with heap := h, toks := tk }) :
    ItemsRest prog w A E h₀ env target body Q s ws keep (zipItems xs ys) m₀ news := by
  induction r1 generalizing ys m₀ with
  | nil =>
    cases r2
    rw [zipItems]
    exact ItemsRest.zero (zero m₀ h0)
  | @cons x b xs' js' x1 y1 ih =>
    cases r2 with
    | @cons y _ ys' _ x2 y2 =>
    rw [zipItems]
    refine ItemsRest.pair ?_
    intro T t h tk hT F
    refine allObj_of fun its hi => ?_
    intro N
    refine wpAny_mono (step x y b m₀ x1 x2 (.head _) h0 T h tk its hT (fun q hq => ?_) F N) (fun _ s2 h2 => wpAny_mono h2 (fun f s3 h3 => ?_) fun _ _ z => z) fun _ _ z => z
    · rw [← hi.map]; exact List.mem_map_of_mem hq
    · refine unrPostW_mono h3 ?_
      rintro m' n' ⟨rfl, hJ⟩
      exact ⟨hk, ih y2 hJ fun x y b m1 r1 r2 hb => step x y b m1 r1 r2 (.tail _ hb)⟩
end
section
variable {w : World} {mean : ExcName → Option Value} {mg mb : Str → Option Value}
theorem fr_nil {g h₀ h : Heap} {L : Addr} {m : Str → Option Value} (T : KtsTurn (([] : List Env).filterMap (·.frame)) g h₀) (F : Fr h₀ L h m) : Fr g L h m :=
  ⟨F.ns, fun b o e => F.keep b o (T.other b o e (by simp)), Nat.le_trans (Nat.le_of_eq T.size.symm) F.above⟩
theorem news_nil {g h₀ h : Heap} {L : Addr} {news : List (Addr × Obj)} (T : KtsTurn (([] : List Env).filterMap (·.frame)) g h₀) (N : News h₀ L h news) : News g L h news := by
  intro p hp
  refine ⟨(N p hp).1, (N p hp).2.1, ?_⟩
  cases q : g.get? p.1 with
  | none => rfl
  | some o =>
    have := (N p hp).2.2
    rw [T.other _ _ q (by simp)] at this
    cases this
theorem told_top {dp un : Nat} {gd : Option (List Code)} {cn : Str} {cs : Scope} {a : Addr} {ccd : Value} {A₀ : Around} {base h₀ : Heap} {L : Addr} {m : Str → Option Value} {news : List (Addr × Obj)} {s : Shared} {comp l r : Value} {ks : List (Int × Int)} {rl rr : Row}
    {Q E : Value → Shared → Prop}
    (XB : (hd.heap_39 w.params).In base) (TB : Top topProg LO mean mg mb base)
    (B : Below A₀ base [] h₀) (F : Fr h₀ L s.heap m) (X : (hd.heap_39 w.params).In h₀) (N : News h₀ L s.heap news) (T : Top topProg LO mean mg mb h₀) (hk : cs.kind = .function)
    (hc : CompIs news comp ks) (hl : RowIs news l rl) (hr : RowIs news r rr) (hko : KeysOk ks) (hlo : RowOk rl) (hro : RowOk rr)
    (hdp : dp + 30 < recursionLimit) (hun : un + 200 < cLine)
    (ret : ∀ h' tk v, Fr h₀ L h' m → News h₀ L h' news → Told1 v (meant ks rl rr) → Q v { s with heap := h', toks := tk }) :
    wpAny (model PySem.Challenge.rw_pg0051_01.row.prog w) (topO dp un gd cn cs L a ccd []) (call (.ref 132) [comp, l, r]) Q E s :=
  told_ctr XB TB KtsTurn.refl (fun _ h => nomatch h) B F X N T hk hc hl hr hko hlo hro hdp hun fun _ h' tk v T' _ _ F' _ N' _ hv => ret h' tk v (fr_nil T' F') (news_nil T' N') hv
theorem line_top {dp un : Nat} {gd : Option (List Code)} {cn : Str} {cs : Scope} {a : Addr} {ccd : Value} {A₀ : Around} {base h₀ : Heap} {L : Addr} {m : Str → Option Value} {news : List (Addr × Obj)} {s : Shared} {comp rows : Value} {ks : List (Int × Int)} {rs : List Row}
    {Q E : Value → Shared → Prop}
    (XB : (hd.heap_39 w.params).In base) (TB : Top topProg LO mean mg mb base)
    (B : Below A₀ base [] h₀) (F : Fr h₀ L s.heap m) (X : (hd.heap_39 w.params).In h₀) (N : News h₀ L s.heap news) (T : Top topProg LO mean mg mb h₀) (hk : cs.kind = .function)
    (hc : CompIs news comp ks) (hr : MadeIs news rows rs) (hko : KeysOk ks) (hro : ∀ r ∈ rs, RowOk r) (hlen : rs.length ≤ 7)
    (hdp : dp + 50 < recursionLimit) (hun : un + 400 < cLine)
    (ret : ∀ h' tk ln k vs tl, Fr h₀ L h' m → News h₀ L h' (news ++ tl) → Apart news tl →
      (ln, listOf vs.toArray k) ∈ tl → IntsOf vs (lineOf (ahOf ks rs) rs.length) → Q (.ref ln) { s with heap := h', toks := tk }) :
    wpAny (model PySem.Challenge.rw_pg0051_01.row.prog w) (topO dp un gd cn cs L a ccd []) (call (.ref 153) [comp, rows]) Q E s :=
  line_ctr XB TB KtsTurn.refl (fun _ h => nomatch h) B F X N T hk hc hr hko hro hlen hdp hun fun _ h' tk ln k vs tl T' _ _ F' _ N' ha _ hl hv => ret h' tk ln k vs tl (fr_nil T' F') (news_nil T' N') ha hl hv
end
end Mine
end
section
open PySem PySem.W PyProof.Rows PySem.Calls
namespace Mine
theorem All2.getD {α β : Type} {R : α → β → Prop} {as : List α} {bs : List β} (h : All2 R as bs) {i : Nat} (hi : i < bs.length) (da : α) (db : β) : R (as.getD i da) (bs.getD i db) := by
  obtain ⟨a, ha, hr⟩ := h.get (i := i) (b := bs.getD i db) (by simp [List.getElem?_eq_getElem hi])
  have : as.getD i da = a := by rw [List.getD_eq_getElem?_getD, ha]; rfl
  rw [this]; exact hr
theorem All2.katRev {α β : Type} {R : α → β → Prop} {as : List α} {bs : List β} (h : All2 R as bs) (b : Bool) : All2 R (katRev b as) (katRev b bs) := by
  unfold PySem.W.katRev
  cases b with
  | true => simpa using h.rev
  | false => simpa using h
theorem All2.mapR {α β γ : Type} {R : α → γ → Prop} {f : β → γ} : ∀ {as : List α} {bs : List β}, All2 (fun a b => R a (f b)) as bs → All2 R as (bs.map f)
  | _, _, .nil => .nil
  | _, _, .cons x y => .cons x y.mapR
theorem All2.picks {α β : Type} {R : α → β → Prop} {as : List α} {bs : List β} (h : All2 R as bs) (da : α) (db : β) : ∀ (js : List Nat), (∀ j ∈ js, j < bs.length) → All2 R (js.map fun i => as.getD i da) (js.map fun i => bs.getD i db)
  | [], _ => .nil
  | j :: js, hj => .cons (h.getD (hj j (.head _)) da db) (h.picks da db js fun k hk => hj k (.tail _ hk))
theorem sort_lt {r : Nat → Int} {n : Nat} (hn : 1 ≤ n) : ∀ j ∈ (evT (byW r) (kas_sort n)).toList, j < n := by
  have F := (sort_spec (r := r) hn).1.2.2.2.2
  intro j hj
  simpa using (F.mem_iff.mp hj)
section
variable {prog : Program} {w : World} {A : Around} {E : Value → Shared → Prop} {s : Shared} {h₀ : Heap} {L : Addr} {m : Str → Option Value} {news : List (Addr × Obj)}
/-- what the key of a sort hands back: a fresh pair -/
def KeyOut (h₀ : Heap) (L : Addr) (m : Str → Option Value) (s : Shared) (all : List (Addr × Obj)) (c : Nat × Int) (y : Value) (s' : Shared) : Prop :=
  ∃ h' tk' T n t1 t2, s' = { s with heap := h', toks := tk' } ∧ y = .ref T ∧ Fr h₀ L h' m ∧ News h₀ L h' ((T, tupO [.int (-(c.1 : Int)) t1, .int c.2 t2] n) :: all) ∧ ∀ q ∈ all, q.1 ≠ T
theorem sorted_pass {l fa : Addr} {us : List Value} {c0 : Nat} {ls : List Nat} {cell : Nat → Nat × Int} {M : Int} {b : Bool} {Q : Value → Shared → Prop}
    (F : Fr h₀ L s.heap m) (N : News h₀ L s.heap news) (hl : (l, listOf us.toArray c0) ∈ news) (hus : IntsOf us ls) (h2 : 2 ≤ ls.length) (h64 : ls.length < 64)
    (hc : ∀ i ∈ ls, (cell i).1 ≤ 2 ∧ -M ≤ (cell i).2 ∧ (cell i).2 ≤ M)
    (step : ∀ i, i ∈ ls → ∀ t all h tk, (∀ p ∈ news, p ∈ all) → Fr h₀ L h m → News h₀ L h all →
      wpAny (model prog w) A.in1.in1 (call (.ref fa) [.int (i : Int) t]) (KeyOut h₀ L m s all (cell i)) (fun _ _ => False) { s with heap := h, toks := tk })
    (ret : ∀ D us' e h' tk, Fr h₀ L h' m → News h₀ L h' ((D, listOf (List.toArray us') e) :: news) → (∀ q ∈ news, q.1 < D) → IntsOf us' (passOf (fun i => weigh M (cell i)) b ls) → Q (.ref D) { s with heap := h', toks := tk }) :
    wpAny (model prog w) A (call (.builtin "sorted") [.ref l] [(Str.ofString "key", .ref fa), (Str.ofString "reverse", .bool b)]) Q E s := by
  have hul := hus.length
  refine kat_sortedK F N (News.isList N hl) (by omega) (by omega) (ksk_s2 _ _ _) (fun x => ksk_l2 _ _ _) (fun x => ksk_t2 _ _ _) ?_
  intro D kS e1 h1 F1 N1 hDk hlt
  have hkn : ∀ p ∈ (D, seqObj "list" #[] e1) :: news, p.1 ≠ kS := by
    intro p hp
    rcases List.mem_cons.mp hp with rfl | hp
    · exact Nat.ne_of_lt hDk
    · exact Nat.ne_of_lt (Nat.lt_trans (hlt p hp) hDk)
  refine kat_all (news := (D, seqObj "list" #[] e1) :: news) (cs := ls) (fun tl v i => WgtIs tl v (cell i)) (fun v (i : Nat) => ∃ t, v = .int (i : Int) t) (fun _ _ _ _ h => WgtIs.mono h) hus hkn ?_ ?_ F1 N1
  · rintro v i ⟨t, rfl⟩ hi tl o h tk ha F2 N2
    refine wpAny_mono (step i hi t _ h tk (fun p hp => List.mem_append_left _ (.tail _ (.tail _ hp))) F2 N2) ?_ fun _ _ x => x
    rintro y s' ⟨h', tk', T, n, t1, t2, rfl, rfl, F3, N3, hT⟩
    refine ⟨h', tk', [(T, tupO [.int (-((cell i).1 : Int)) t1, .int (cell i).2 t2] n)], rfl, F3, ?_, ?_, T, n, t1, t2, rfl, List.mem_append_right _ (.head _)⟩
    · intro p hp
      refine N3 p ?_
      rcases List.mem_append.mp hp with hp | hp
      · exact .tail _ hp
      · rw [List.mem_singleton.mp hp]; exact .head _
    · intro q hq p hp
      rw [List.mem_singleton.mp hp]
      exact hT q hq
  · intro ks tl e h tk hks ha F2 N2
    have hkl := hks.length
    have hkA : All2 (fun v i => WgtIs ((kS, seqObj "list" (List.toArray ks) e) :: (D, seqObj "list" #[] e1) :: news ++ tl) v (cell i)) ks ls := hks.mono fun _ _ => WgtIs.mono fun p hp => List.mem_append_right _ hp
    refine wgt_kind (cs := ls.map cell) N2 hkA.mapR (by rw [List.length_map]; omega) ?_
    have hD1 : ∀ p ∈ tl, p.1 ≠ D := fun p hp => Ne.symm (ha (D, seqObj "list" #[] e1) (.tail _ (.head _)) p hp)
    have hk1 : ∀ p ∈ tl, p.1 ≠ kS := fun p hp => Ne.symm (ha _ (.head _) p hp)
    rw [hul]
    refine okT_wp (N := ls.length) (f := byW fun i => weigh M (cell ((katRev b ls).getD i 0))) ?_ (ok_sort (by omega)) ?_
    · intro i j C hi hj hC
      have hkr := hkA.katRev b
      have hrl : (katRev b ls).length = ls.length := kat_len b ls
      have mi : (katRev b ls).getD i 0 ∈ ls := (katRev_perm b ls).mem_iff.mp (getD_mem (by omega))
      have mj : (katRev b ls).getD j 0 ∈ ls := (katRev_perm b ls).mem_iff.mp (getD_mem (by omega))
      obtain ⟨a1, a2, a3⟩ := hc _ mi
      obtain ⟨b1, b2, b3⟩ := hc _ mj
      exact wgt_lt N2 (hkr.getD (by omega) _ _) (hkr.getD (by omega) _ _) a1 b1 ⟨a2, a3⟩ ⟨b2, b3⟩ hC
    · have hout : IntsOf (katRev b ((evT (byW fun i => weigh M (cell ((katRev b ls).getD i 0))) (kas_sort ls.length)).toList.map fun i => (katRev b us).getD i Value.none)) (passOf (fun i => weigh M (cell i)) b ls) := by
        unfold passOf
        refine All2.katRev ?_ b
        refine (hus.katRev b).picks _ _ _ ?_
        rw [kat_len]
        exact sort_lt (by omega)
      refine KatFin.intro F2 N2 (UpdF.head fun q hq => ?_) ?_
      · rcases List.mem_append.mp hq with hq | hq
        · exact hkn q hq
        · exact hk1 q hq
      intro h3 c3 F3 N3
      have hnD : ∀ q ∈ news ++ tl, q.1 ≠ D := by
        intro q hq
        rcases List.mem_append.mp hq with hq | hq
        · exact Nat.ne_of_lt (hlt q hq)
        · exact hD1 q hq
      refine KasFin.intro F3 N3 (UpdF.tail (Ne.symm (Nat.ne_of_lt hDk)) (UpdF.head hnD)) ?_
      intro h4 c4 F4 N4
      refine ret D _ c4 h4 tk F4 ?_ hlt hout
      intro p hp
      refine N4 p ?_
      rcases List.mem_cons.mp hp with rfl | hp
      · exact .tail _ (.head _)
      · exact .tail _ (.tail _ (List.mem_append_left _ hp))
end
end Mine
end
section
open PySem PySem.W PyProof.Rows PySem.Calls
namespace Mine
set_option linter.unusedSimpArgs false
local macro_rules | `(tactic| walk_at "exec For Tuple Subscript cons nil") => `(tactic| (refine Mine.stopped ?_))
local macro_rules | `(tactic| walk_at "subscriptTail Name Slice ref ref") => `(tactic| (refine Mine.stopped ?_))
local macro_rules | `(tactic| walk_at "eval Lambda") => `(tactic| (refine Mine.stopped ?_))
local macro_rules | `(tactic| walk_at "call builtin:sorted") => `(tactic| (refine Mine.stopped ?_))
abbrev lamPos : Pos := { line := 96, col := 32, endLine := 96, endCol := 76 }
abbrev lamQ : Str := Str.ofString "_law_sorted" ++ ".<locals>." ++ "<lambda>"
theorem map_one {m : Str → Option Value} {a : Str} {va : Value} (ha : m a = some va) : m = fun y => if y = a then some va else m y := by
  funext y
  by_cases h1 : y = a
  · simp [h1, ha]
  · simp [h1]
theorem item_draws {prog : Program} {w : World} {A : Around} {E : Value → Shared → Prop} {s : Shared} {h₀ : Heap} {L ra : Addr} {news : List (Addr × Obj)} {value slice : PySem.Expr} {rvs : List Value} {rs : List Row} {rn i : Nat} {u : Tok} {Q : Value → Shared → Prop} (N : News h₀ L s.heap news) (hra : (ra, listOf rvs.toArray rn) ∈ news) (hr : All2 (DrawnIs news) rvs rs) (hi : i < rs.length) (h7 : rs.length < 100)
    (h : ∀ x, DrawnIs news x (rs.getD i []) → Q x s)
    (hs : ∀ t, subscripted slice false (.ref t) (.int (i : Int) u) = operate [.ref t, .int (i : Int) u] (getItem (.ref t) (.int (i : Int) u)) := by intro t; with_unfolding_all rfl) (hg : ∀ t r, letTemporaryGo value (.ref t) r = pure () := by intro _ _; with_unfolding_all rfl) :
    wpAny (model prog w) A (subscriptTail value slice (.ref ra) (.int (i : Int) u)) Q E s := by
  obtain ⟨x, hx, hn⟩ := hr.get (i := i) (b := rs.getD i []) (by simp [List.getElem?_eq_getElem hi])
  exact item_listL (l := rvs) ⟨_, (N _ hra).1, rfl, rn, rfl⟩ (by omega) (by omega) (by simpa using hx) (h x hn) (hs ra) (hg ra)
theorem keyOut_mk {h₀ h' : Heap} {L T : Addr} {m : Str → Option Value} {s : Shared} {all rest : List (Addr × Obj)} {c : Nat × Int} {tk n : Nat} {t1 t2 : Tok} (F : Fr h₀ L h' m) (N : News h₀ L h' ((T, tupO [.int (-(c.1 : Int)) t1, .int c.2 t2] n) :: rest)) (hs : ∀ q ∈ all, q ∈ rest) (hT : ∀ q ∈ all, q.1 ≠ T) :
    KeyOut h₀ L m s all c (.ref T) { s with heap := h', toks := tk } := by
  refine ⟨h', tk, T, n, t1, t2, rfl, rfl, F, fun q hq => ?_, hT⟩
  rcases List.mem_cons.mp hq with rfl | hq
  · exact N _ (.head _)
  · exact N _ (.tail _ (hs q hq))
variable {w : World} {mean : ExcName → Option Value} {mg mb : Str → Option Value}
theorem sorted_ctr {dp un : Nat} {gd : Option (List Code)} {cn : Str} {cs : Scope} {a : Addr} {ccd : Value} {outer : List Env} {A₀ : Around} {base h₀ : Heap} {L : Addr} {m : Str → Option Value} {news : List (Addr × Obj)} {s : Shared} {kv dv : Value} {ks : List (Int × Int)} {rs : List Row} {M : Int}
    {Q E : Value → Shared → Prop}
    (B : Below A₀ base outer h₀) (F : Fr h₀ L s.heap m) (X : (hd.heap_39 w.params).In h₀) (N : News h₀ L s.heap ((162, tabObj #[]) :: news)) (T : Top topProg LO mean mg mb h₀) (hk : cs.kind = .function) (C : CodeHd h₀ 166 162) (off : ∀ p ∈ news, p.1 ≠ 162)
    (hc : KeysIs news kv ks) (hd : DrawnAll news dv rs) (hko : ∀ k ∈ ks, KeyGood k) (hro : ∀ r ∈ rs, RowOk r) (hw : ∀ r ∈ rs, Within M r) (h4 : 4 ≤ rs.length) (h7 : rs.length ≤ 7) (h3 : ks.length ≤ 3)
    (hdp : dp + 50 < recursionLimit) (hun : un + 400 < cLine)
    (ret : ∀ h' tk ln k vs tl ps, Fr h₀ L h' m → News h₀ L h' ((162, tabObj ps) :: news ++ tl) → Apart news tl → (ln, listOf vs.toArray k) ∈ tl → IntsOf vs (passes (weightAt M rs) rs.length ks) → Q (.ref ln) { s with heap := h', toks := tk }) :
    wpAny (model PySem.Challenge.rw_pg0051_01.row.prog w) (topO dp un gd cn cs L a ccd outer) (call (.ref 167) [kv, dv]) Q E s := by
  obtain ⟨da, dn', dvs, rfl, hda, hds⟩ := hd
  have hdl := hds.length
  obtain ⟨lk, kk, kvs, rfl, hlk, hkv⟩ := hc
  w_top off; revert X; k_fill; intro X
  refine wpAny_call ?_
  k_dflt (refine' code_defC ?k1 ?k2 ?k3 ?k4 ?k5 ?kA ?kF ?kK ?k6 ?k7 ?k8 ?k9 ?kB ?kD ?_ ?c2 ?c3 ?c4; (case kA => exact rfl); (case kF => exact rfl); (case kK => exact hk); (case k1 => exact B); (case k2 => exact F); (case k3 => exact X); (case k4 => exact N); (case k5 => exact T); (case k6 => k_is); (case k7 => k_is); (case k8 => show dp < recursionLimit; omega); (case k9 => exact BindsTo.of_eq rfl); (case kB => exact rfl); (case kD => decide +kernel); (case c2 => exact rfl); (case c3 => exact rfl); (case c4 => exact rfl))
  intro g' L' h' tk' cells' FG' F' N' Y' B' X' T' l1
  have l2 : ∀ p ∈ (162, tabObj #[]) :: news, p.1 < L' := l1
  clear l1
  k_cells Y'; (try simp only [List.cons_append, List.nil_append] at N'); (try dsimp only); (try k_fold)
  rename_i o1 o2 d1 d2
  have C' : CodeHd g' 166 162 := C.keeps FG'.keep
  k_steps
  rename News _ _ _ _ => N1
  refine PyProof.Rows.len_list (News.isList N1 (.tail _ (.tail _ (.tail _ hda)))) (by rw [List.size_toArray]; omega) ?_
  clear F N T B
  k_steps
  rename Fr _ _ _ _ => F1
  rename News _ _ _ _ => N1
  rename IsRange _ _ _ _ _ _ _ _ => hR
  have hsz : (dvs.toArray.size : Int) = (rs.length : Int) := by rw [List.size_toArray, hdl]
  rw [hsz] at hR
  refine kll_range rfl F1 N1 hR (range_facts h7).1 (range_facts h7).2 (by omega) ?_
  intro ln us c0 h2 tk2 F2 N2 l3 hI
  clear F1 N1 hR
  k_steps
  refine unstop ?_
  rename Fr _ _ _ _ => F1
  with_unfolding_all refine For_turns F1 ?_
  k_steps
  refine unstop ?_
  rename News _ _ _ _ => N1
  have hkl := hkv.length
  k_dflt (refine' krv_lit (zs := kvs.reverse) ?F ?N ?l ?k ?e ?_ ?s ?t ?z; (case F => exact F1); (case N => exact N1); (case l => exact News.isList N1 (.tail _ (.tail _ (.tail _ (.tail _ hlk))))); (case k => exact IsPart.int _ _); (case e => simp); (case s => with_unfolding_all rfl); (case t => kmk_pure); (case z => rw [List.size_toArray, sizeLine_eq]; omega))
  intro D h3 F3 N3 l4
  clear F1 N1
  refine iter_listTurns rfl F3 N3 (.head _) rfl rfl ?_
  intro I hI1
  have hDL : L' + 1 + 1 < D := l4 _ (.tail _ (.head _))
  have hlD : ln < D := l4 _ (.head _)
  have hlL : L' + 1 + 1 < ln := l3 _ (.head _)
  have h162 : 162 < L' := l2 _ (.head _)
  have hDI : D < I := hI1 _ (.head _)
  refine itemsRest_loop (fun m1 news1 dn => ∃ ln us c0 q1 v1 ps ex, m1 "line" = some (.ref ln) ∧ news1 = (D, listOf kvs.reverse.toArray 0) :: (ln, listOf (List.toArray us) c0) :: (L' + 1 + 1, q1) :: (L' + 1, o2) :: (162, tabObj ps) :: (ex ++ news) ∧
    q1.data = .cell v1 ∧ IntsOf us (passes (weightAt M rs) rs.length dn) ∧ (L' + 1 + 1 < ln ∧ ln ≠ D ∧ ln ≠ I) ∧
    TabIs lamPos lamQ ps ex ∧ ∀ q ∈ ex, L' + 1 + 1 < q.1 ∧ q.1 ≠ D ∧ q.1 ≠ ln ∧ q.1 ≠ I) hkv.rev
    ⟨ln, us, c0, o1, _, #[], [], rfl, rfl, d1, ints_range hI, ⟨hlL, Nat.ne_of_lt hlD, Nat.ne_of_lt (Nat.lt_trans hlD hDI)⟩, .inl ⟨rfl, rfl⟩, fun _ h => nomatch h⟩ ?_ ?_
  · rintro m1 news1 ⟨ln2, us2, c2, q1, v1, ps, ex, hm1, rfl, hq1, hus, ⟨g1, g2, g3⟩, hps, hxx⟩ h5 tk5 F5 N5
    rw [List.reverse_reverse] at hus
    rw [map_one hm1] at F5
    dsimp only
    clear F3 N3
    k_steps
    rename Fr h₀ _ _ _ => F9
    rename News h₀ _ _ _ => N9
    have hex : ∀ q ∈ ex, L' + 1 + 1 < q.1 := fun q hq => (hxx q hq).1
    refine ret h5 tk5 ln2 c2 us2 ((ln2, listOf (List.toArray us2) c2) :: ex) ps F9 ?_ ?_ (.head _) hus
    · intro q hq
      refine N9 q ?_
      simp only [List.cons_append, List.mem_cons, List.mem_append] at hq ⊢
      rcases hq with hq | hq | hq | hq
      · exact .inr (.inr (.inr (.inr (.inl hq))))
      · exact .inr (.inr (.inr (.inr (.inr (.inr hq)))))
      · exact .inr (.inl hq)
      · exact .inr (.inr (.inr (.inr (.inr (.inl hq)))))
    · intro q hq p hp
      have hqL : q.1 < L' := l2 q (.tail _ hq)
      rcases List.mem_cons.mp hp with rfl | hp
      · exact Nat.ne_of_lt (Nat.lt_trans hqL (Nat.lt_of_succ_lt (Nat.lt_of_succ_lt g1)))
      · exact Nat.ne_of_lt (Nat.lt_trans hqL (Nat.lt_of_succ_lt (Nat.lt_of_succ_lt (hex p hp))))
  · rintro v ⟨p, d⟩ dn m1 news1 ⟨Tk, nn, t1, t2, rfl, hT⟩ hkm ⟨ln2, us2, c2, q1, v1, ps, ex, hm1, rfl, hq1, hus, ⟨g1, g2, g3⟩, hps, hxx⟩ h5 tk5 oi F5 N5
    rw [map_one hm1] at F5
    clear F3 N3
    dsimp only at hT ⊢
    refine unpackN_ F5 N5 (News.isTup N5 (.tail _ (.tail _ (.tail _ (.tail _ (.tail _ (.tail _ (List.mem_append_right _ hT)))))))) rfl rfl rfl ?_
    intro h6 F6 N6
    clear F5 N5
    k_steps
    have hex : ∀ q ∈ ex, L' + 1 + 1 < q.1 := fun q hq => (hxx q hq).1
    have hrest : ∀ q ∈ (L' + 1, o2) :: (162, tabObj ps) :: (ex ++ news), q.1 ≠ L' + 1 + 1 := by
      intro q hq
      rcases List.mem_cons.mp hq with rfl | hq
      · exact Nat.ne_of_lt (Nat.lt_succ_self _)
      · rcases List.mem_cons.mp hq with rfl | hq
        · exact Nat.ne_of_lt (Nat.lt_succ_of_lt (Nat.lt_succ_of_lt h162))
        · rcases List.mem_append.mp hq with hq | hq
          · exact Nat.ne_of_gt (hex q hq)
          · exact Nat.ne_of_lt (Nat.lt_succ_of_lt (Nat.lt_succ_of_lt (l2 q (.tail _ hq))))
    k_dflt (refine' storeX_C F6 N6 ?hc (UpdF.tail ?u1 (UpdF.tail ?u2 (UpdF.tail ?u3 (UpdF.head hrest)))) hq1 ?_ ?hk ?hx; (case hc => rfl); (case u1 => exact Nat.ne_of_gt (Nat.lt_trans hDL hDI)); (case u2 => exact Nat.ne_of_gt hDL); (case u3 => exact Nat.ne_of_gt g1); (case hk => rfl); (case hx => rfl))
    intro h7 q2 F7 N7 hq2
    clear F6 N6
    k_steps
    refine unstop ?_
    rename Fr g' _ _ _ => F8
    rename News g' _ _ _ => N8
    have e162 : ∀ q ∈ [(I, oi), (D, W.listOf kvs.reverse.toArray 0), (ln2, W.listOf us2.toArray c2), (L' + 1 + 1, q2), (L' + 1, o2)], q.1 ≠ 162 := by
      have hh : ∀ b, L' < b → b ≠ 162 := fun b hb => Nat.ne_of_gt (Nat.lt_trans h162 hb)
      intro q hq
      simp only [List.mem_cons, List.not_mem_nil, or_false] at hq
      rcases hq with rfl | rfl | rfl | rfl | rfl
      · exact hh _ (Nat.lt_trans (Nat.lt_of_succ_lt (Nat.lt_of_succ_lt hDL)) hDI)
      · exact hh _ (Nat.lt_of_succ_lt (Nat.lt_of_succ_lt hDL))
      · exact hh _ (Nat.lt_of_succ_lt (Nat.lt_of_succ_lt g1))
      · exact hh _ (Nat.lt_succ_of_lt (Nat.lt_succ_self _))
      · exact hh _ (Nat.lt_succ_self _)
    refine lam_any (own := [(I, oi), (D, W.listOf kvs.reverse.toArray 0), (ln2, W.listOf us2.toArray c2), (L' + 1 + 1, q2), (L' + 1, o2)]) F8 N8 T' C' rfl hps e162 ?_ rfl rfl ?_
    · intro q hq
      rcases List.mem_append.mp hq with hq | hq
      · exact Nat.ne_of_gt (Nat.lt_trans (Nat.lt_trans h162 (Nat.lt_of_succ_lt (Nat.lt_succ_self _))) (hex q hq))
      · exact off q hq
    intro f c' oc vs t ctv h8 tk8 F9 N9 hoc hvs lf lcf hc'
    clear F8 N8
    simp only [List.cons_append, List.nil_append] at N9 lf hc'
    k_steps
    refine unstop ?_
    obtain ⟨⟨p0, p3⟩, hd1⟩ := hko (p, d) (List.mem_reverse.mp hkm)
    have hpl := passes_length (weightAt M rs) (n := rs.length) (by omega) dn
    show wpAny _ _ (call (.builtin "sorted") [.ref ln2] [(Str.ofString "key", Value.ref f), (Str.ofString "reverse", Value.bool (decide (d < 0)))]) _ _ _
    refine sorted_pass (ls := passes (weightAt M rs) rs.length dn) (cell := fun i => cellAt (rs.getD i []) p) (M := M) F9 N9 (.tail _ (.tail _ (.tail _ (.head _)))) hus (by omega) (by omega) ?_ ?_ ?_
    · intro i hi
      have hin := passes_mem (weightAt M rs) (n := rs.length) (by omega) hi
      have mi : rs.getD i [] ∈ rs := getD_mem hin
      obtain ⟨gi, fi⟩ := cell_get (p := p) (hro _ mi) p0 p3
      have wi := hw _ mi _ (List.mem_of_getElem? gi)
      exact ⟨fi, wi⟩
    · intro i hi t5 all h9 tk9 hsub F11 N11
      have hin := passes_mem (weightAt M rs) (n := rs.length) (by omega) hi
      have d2' : o2.data = .cell (some (.ref da)) := d2
      refine wpAny_call ?_
      k_dflt (refine' kla_code ?k1 ?k2 ?k3 ?k4 ?k5 ?kA ?kF ?kK ?k6 ?k7 ?k8 ?k9 ?kB ?_ ?c2 ?c3 ?c4 ?c5; (case kA => exact rfl); (case kF => exact rfl); (case kK => exact rfl); (case k1 => exact B'); (case k2 => exact F11); (case k3 => exact X'); (case k4 => exact N11); (case k5 => exact T'); (case k6 => exact hsub _ (.head _)); (case k7 => exact codeRec_mem N11 (hsub _ (by k_mem)) hoc hvs); (case k8 => show dp + 1 < recursionLimit; omega); (case k9 => exact rfl); (case c5 => decide); (case kB => exact locs rfl); (case c2 => exact rfl); (case c3 => exact rfl); (case c4 => exact rfl))
      intro g3 L3 h10 FG3 F12 N12 B3 X3 T3
      have N13 : News g3 L3 h10 ((L' + 1 + 1, q2) :: (L' + 1, o2) :: (da, W.listOf dvs.toArray dn') :: all) := by
        intro q hq
        rcases List.mem_cons.mp hq with rfl | hq
        · exact N12 _ (hsub _ (by k_mem))
        · rcases List.mem_cons.mp hq with rfl | hq
          · exact N12 _ (hsub _ (by k_mem))
          · rcases List.mem_cons.mp hq with rfl | hq
            · exact N12 _ (hsub _ (.tail _ (.tail _ (.tail _ (.tail _ (.tail _ (.tail _ (.tail _ (.tail _ hda)))))))))
            · exact N12 _ hq
      clear N12 N11 F11 F9 N9
      dsimp only
      (try k_fold)
      k_steps
      have hall : ∀ q ∈ news, q ∈ (L' + 1 + 1, q2) :: (L' + 1, o2) :: (da, W.listOf dvs.toArray dn') :: all := fun q hq => .tail _ (.tail _ (.tail _ (hsub _ (.tail _ (.tail _ (.tail _ (.tail _ (.tail _ (.tail _ (.tail _ (.tail _ hq)))))))))))
      rename News g3 _ _ _ => N14
      refine item_draws N14 (.tail _ (.tail _ (.head _))) (hds.mono fun _ _ => DrawnIs.mono hall) hin (by omega) ?_
      intro xv hxv
      k_steps
      rename News g3 _ _ _ => N15
      refine item_drawn N15 hxv (hro _ (getD_mem hin)) p0 p3 ?_
      intro Tc nc tc tc' hTc
      k_steps
      rename News g3 _ _ _ => N16
      rename Fr g3 _ _ _ => F16
      refine wpAny_call ?_
      k_dflt (refine' code_def ?k1 ?k2 ?k3 ?k4 ?k5 ?kA ?kF ?kK ?k6 ?k7 ?k8 ?k9 ?kB ?_ ?c2 ?c3 ?c4 ?c5; (case kA => exact rfl); (case kF => exact rfl); (case kK => exact rfl); (case k1 => exact B3); (case k2 => exact F16); (case k3 => exact X3); (case k4 => exact N16); (case k5 => exact T3); (case k6 => k_is); (case k7 => k_is); (case k8 => show dp + 1 + 1 < recursionLimit; omega); (case k9 => exact BindsTo.of_eq rfl); (case c5 => decide); (case kB => exact locs rfl); (case c2 => exact rfl); (case c3 => exact rfl); (case c4 => exact rfl))
      intro g4 L4 h11 FG4 F17 N17 B4 X4 T4
      dsimp only
      clear F16 N16
      (try k_fold)
      k_steps
      rename Fr g' _ _ _ => F18
      rename News g' _ _ _ => N18
      rename (_ ∧ _ ∧ _ ∧ AllLt _ _) => l18
      exact keyOut_mk F18 N18 (fun q hq => .tail _ (.tail _ (.tail _ hq))) (fun q hq => Nat.ne_of_lt (tb_ltOf l18.2.2.2 q hq))
    · intro D2 us3 e2 h9 tk9 F11 N11 hlt hout
      clear F9 N9
      k_steps
      rename Fr g' _ _ _ => F12
      rename News g' _ _ _ => N12
      have hLD : L' < D := Nat.lt_of_succ_lt (Nat.lt_of_succ_lt hDL)
      have hfD : f < D2 := hlt (f, _) (.head _)
      have hID : I < D2 := hlt (I, _) (.tail _ (.head _))
      have hLD2 : L' + 1 + 1 < D2 := hlt (L' + 1 + 1, _) (.tail _ (.tail _ (.tail _ (.tail _ (.head _)))))
      have hcx : L' + 1 + 1 < c' ∧ c' ≠ D ∧ c' ≠ D2 ∧ c' ≠ I := by
        rcases hc' with rfl | hc'
        · have := hxx (c', oc) (.head _)
          exact ⟨this.1, this.2.1, Nat.ne_of_lt (Nat.lt_trans lcf hfD), this.2.2.2⟩
        · exact ⟨hc' (L' + 1 + 1, _) (.tail _ (.tail _ (.tail _ (.head _)))), Nat.ne_of_gt (hc' (D, _) (.tail _ (.head _))), Nat.ne_of_lt (Nat.lt_trans lcf hfD), Nat.ne_of_gt (hc' (I, _) (.head _))⟩
      refine ⟨_, _, _, (D, W.listOf kvs.reverse.toArray 0) :: (D2, W.listOf us3.toArray e2) :: (L' + 1 + 1, q2) :: (L' + 1, o2) :: (162, tabObj #[rawInt lamPos.line, rawInt lamPos.col, .ref c']) :: ([(c', oc)] ++ news), rfl, F12, ?_, ?_, ⟨.head _, trivial⟩, D2, us3, e2, q2, _, _, [(c', oc)], rfl, rfl, hq2, hout, ⟨hLD2, Nat.ne_of_gt (Nat.lt_trans hDI hID), Nat.ne_of_gt hID⟩, .inr ⟨c', oc, vs, t, rfl, rfl, hoc, hvs⟩, ?_⟩
      · intro q hq
        refine N12 q ?_
        simp only [List.mem_append, List.mem_cons, List.not_mem_nil, or_false, List.cons_append, List.nil_append] at hq ⊢
        rcases hq with h | h | h | h | h | h | h | h
        · exact .inr (.inr (.inl h))
        · exact .inr (.inr (.inr (.inl h)))
        · exact .inl h
        · exact .inr (.inr (.inr (.inr (.inr (.inl h)))))
        · exact .inr (.inr (.inr (.inr (.inr (.inr (.inl h))))))
        · exact .inr (.inr (.inr (.inr (.inr (.inr (.inr (.inl h)))))))
        · exact .inr (.inr (.inr (.inr (.inr (.inr (.inr (.inr (.inl h))))))))
        · exact .inr (.inr (.inr (.inr (.inr (.inr (.inr (.inr (.inr h))))))))
      · intro q hq z hz
        rw [List.mem_singleton.mp hz]
        show q.1 ≠ I
        simp only [List.mem_append, List.mem_cons, List.not_mem_nil, or_false, List.cons_append, List.nil_append] at hq
        rcases hq with rfl | rfl | rfl | rfl | rfl | rfl | h
        · exact Nat.ne_of_lt hDI
        · exact Nat.ne_of_gt hID
        · exact Nat.ne_of_lt (Nat.lt_trans hDL hDI)
        · exact Nat.ne_of_lt (Nat.lt_trans (Nat.lt_of_succ_lt hDL) hDI)
        · exact Nat.ne_of_lt (Nat.lt_trans h162 (Nat.lt_trans hLD hDI))
        · exact hcx.2.2.2
        · exact Nat.ne_of_lt (Nat.lt_trans (l2 q (.tail _ h)) (Nat.lt_trans hLD hDI))
      · intro q hq
        rw [List.mem_singleton.mp hq]
        exact hcx
end Mine
end
section
open PySem PySem.W PyProof.Rows PySem.Calls
namespace Mine
local macro_rules | `(tactic| walk_at "eval ListComp") => `(tactic| ((with_reducible show wpAny _ _ (PySem.eval (PySem.Expr.ListComp _ _ _ _) _) _ _ _); refine Mine.stopped ?_))
local macro_rules | `(tactic| walk_at "exec Assign cons ListComp") => `(tactic| ((with_reducible show wpAny _ _ (PySem.exec (PySem.Stmt.Assign _ (PySem.Expr.ListComp _ _ _ _) _) _) _ _ _); refine Mine.stopped ?_))
local macro_rules | `(tactic| walk_at "CompSrc") => `(tactic| (refine Mine.stopped ?_))
local macro_rules | `(tactic| walk_at "call ref") => `(tactic| ((first | (with_reducible show wpAny _ _ (PySem.call (Value.ref 108) _ _) _ _ _) | (with_reducible show wpAny _ _ (PySem.call (Value.ref 120) _ _) _ _ _) | (with_reducible show wpAny _ _ (PySem.call (Value.ref 125) _ _) _ _ _) | (with_reducible show wpAny _ _ (PySem.call (Value.ref 132) _ _) _ _ _) | (with_reducible show wpAny _ _ (PySem.call (Value.ref 139) _ _) _ _ _) | (with_reducible show wpAny _ _ (PySem.call (Value.ref 153) _ _) _ _ _) | (with_reducible show wpAny _ _ (PySem.call (Value.ref 167) _ _) _ _ _)); refine Mine.stopped ?_))
local macro_rules | `(tactic| walk_at "exec For Tuple Call") => `(tactic| (refine Mine.stopped ?_))
local macro_rules | `(tactic| walk_at "exec For Tuple Call cons nil") => `(tactic| (refine Mine.stopped ?_))
local macro_rules | `(tactic| walk_at "call type:zip") => `(tactic| (refine Mine.stopped ?_))
local macro_rules | `(tactic| walk_at "compareOp Eq ref ref") => `(tactic| (refine Mine.stopped ?_))
theorem all2_pick {γ κ : Type} {R : Value → κ → Prop} {P : κ → Prop} : ∀ {ys : List Value} {us : List γ}, All2 (fun v _ => ∃ c, P c ∧ R v c) ys us → ∃ cs : List κ, All2 R ys cs ∧ ∀ c ∈ cs, P c
  | _, _, .nil => ⟨[], .nil, fun _ h => nomatch h⟩
  | _, _, .cons ⟨c, h1, h2⟩ y => by
    obtain ⟨cs, hr, hb⟩ := all2_pick y
    refine ⟨c :: cs, .cons h2 hr, fun d hd => ?_⟩
    rcases List.mem_cons.mp hd with rfl | hd
    · exact h1
    · exact hb d hd
theorem all2_ints {γ : Type} : ∀ {ys : List Value} {us : List γ}, All2 (fun v _ => ∃ n t, v = .int n t ∧ 0 ≤ n ∧ n < 1000000) ys us → ∃ ns : List Int, IntsAre ys ns ∧ ∀ n ∈ ns, 0 ≤ n ∧ n < 1000000
  | _, _, .nil => ⟨[], .nil, fun _ h => nomatch h⟩
  | _, _, .cons ⟨n, t, e, h1, h2⟩ y => by
    obtain ⟨cs, hr, hb⟩ := all2_ints y
    subst e
    refine ⟨n :: cs, .cons _ _ hr, fun d hd => ?_⟩
    rcases List.mem_cons.mp hd with rfl | hd
    · exact ⟨h1, h2⟩
    · exact hb d hd
theorem sum_small : ∀ {ns : List Int}, (∀ n ∈ ns, 0 ≤ n ∧ n < 1000000) → 0 ≤ ns.sum ∧ ns.sum ≤ 1000000 * (ns.length : Int)
  | [], _ => by simp
  | n :: ns, h => by
    have ih := sum_small fun k hk => h k (.tail _ hk)
    have := h n (.head _)
    simp only [List.sum_cons, List.length_cons]
    omega
theorem DrawnAll.mono {news news' : List (Addr × Obj)} (hs : ∀ p ∈ news, p ∈ news') {v : Value} {rs : List Row} : DrawnAll news v rs → DrawnAll news' v rs
  | ⟨a, n, vs, e, h1, h2⟩ => ⟨a, n, vs, e, hs _ h1, h2.mono fun _ _ => DrawnIs.mono hs⟩
theorem MadeIs.mono {news news' : List (Addr × Obj)} (hs : ∀ p ∈ news, p ∈ news') {v : Value} {rs : List Row} : MadeIs news v rs → MadeIs news' v rs
  | ⟨a, n, vs, e, h1, h2⟩ => ⟨a, n, vs, e, hs _ h1, h2.mono fun _ _ => RowIs.mono hs⟩
theorem comp_led {h₀ h : Heap} {L x d lk : Addr} {es : List DictEntry} {n kk : Nat} {kvs : List Value} {ks : List (Int × Int)} {nk : List (Addr × Obj)} {P : Obj} (N : News h₀ L h ((x, instObj 45 d) :: (d, dictOf es n) :: (162, P) :: nk))
    (h1 : getL "comp_select_list" es = some (some (.ref lk))) (h2 : getL "compare" es = some none) (hlk : (lk, listOf kvs.toArray kk) ∈ nk) (hkv : All2 (KeyIs nk) kvs ks) (hoff : ∀ p ∈ nk, p.1 ≠ 162) (l1 : 162 < d) (l2 : d < x) :
    ∃ nc, News h₀ L h ((162, P) :: nc) ∧ CompIs nc (.ref x) ks ∧ (∀ p ∈ nk, p ∈ nc) ∧ (∀ p ∈ nc, p.1 ≠ 162) := by
  refine ⟨(x, instObj 45 d) :: (d, dictOf es n) :: nk, fun p hp => N p ?_, ⟨x, d, es, n, lk, kvs, kk, rfl, .head _, .tail _ (.head _), ⟨h1, h2⟩, .tail _ (.tail _ hlk), hkv.mono fun _ _ => KeyIs.mono fun p hp => .tail _ (.tail _ hp)⟩, fun p hp => .tail _ (.tail _ hp), fun p hp => ?_⟩
  · simp only [List.mem_cons] at hp ⊢
    rcases hp with h | h | h | h
    · exact .inr (.inr (.inl h))
    · exact .inl h
    · exact .inr (.inl h)
    · exact .inr (.inr (.inr h))
  · rcases List.mem_cons.mp hp with rfl | hp
    · exact Nat.ne_of_gt (Nat.lt_trans l1 l2)
    · rcases List.mem_cons.mp hp with rfl | hp
      · exact Nat.ne_of_gt l1
      · exact hoff p hp
theorem zip_off {I : Addr} {news its : List (Addr × Obj)} (hI : ∀ p ∈ news, p.1 < I) (hits : ∀ q ∈ its, q.1 ∈ ([(I + 4, "zip"), (I + 2, "tuple"), (I + 3, "tuple"), (I, "list_iterator"), (I + 1, "list_iterator")] : List (Addr × String)).map (·.1)) : ∀ p ∈ news, ∀ q ∈ its, p.1 ≠ q.1 := by
  intro p hp q hq
  have h0 := hI p hp
  have h1 := hits q hq
  simp only [List.map_cons, List.map_nil, List.mem_cons, List.not_mem_nil, or_false] at h1
  rcases h1 with h | h | h | h | h <;> rw [h]
  · exact Nat.ne_of_lt (Nat.lt_of_lt_of_le h0 (Nat.le_add_right _ _))
  · exact Nat.ne_of_lt (Nat.lt_of_lt_of_le h0 (Nat.le_add_right _ _))
  · exact Nat.ne_of_lt (Nat.lt_of_lt_of_le h0 (Nat.le_add_right _ _))
  · exact Nat.ne_of_lt h0
  · exact Nat.ne_of_lt (Nat.lt_of_lt_of_le h0 (Nat.le_add_right _ _))
theorem intsOf_are : ∀ {vs : List Value} {ns : List Nat}, IntsOf vs ns → IntsAre vs (ns.map fun n : Nat => (n : Int))
  | _, _, .nil => .nil
  | _, _, .cons ⟨t, e⟩ y => by
    subst e
    exact .cons _ t (intsOf_are y)
theorem ints_all2 : ∀ {vs : List Value} {ns : List Int}, IntsAre vs ns → All2 (fun v (n : Int) => ∃ t, v = .int n t) vs ns
  | _, _, .nil => .nil
  | _, _, .cons _ t hr => .cons ⟨t, rfl⟩ (ints_all2 hr)
theorem law_holds : PySem.Challenge.rw_pg0051_01.Holds := hd (by
  k_go0
  all_goals (try k_fold)
  k_steps
  refine unstop ?_
  rename Fr _ _ _ _ => F1
  rename Below _ _ _ _ => B1
  rename Top _ _ _ _ _ _ => T1
  rename (hd.heap_39 _).In _ => X1
  k_dflt (refine LCg.Assign_ListComp_U (F₀ := F1) (by rfl) (by with_unfolding_all rfl) (by with_unfolding_all rfl) (by decide) (by rfl) (by decide) (by rfl) (by rfl) (by rfl) ?_)
  k_steps
  refine unstop ?_
  rename Fr _ _ _ _ => F2
  k_dflt (refine LCg.ListComp_U (F₀ := F2) (by with_unfolding_all rfl) (by decide) (by rfl) (by decide) (by rfl) ?_)
  k_steps
  refine unstop ?_
  rename News _ _ _ _ => N2
  rename Fr _ _ _ _ => F3
  rename IntsAre _ (List.take 3 _) => hI3
  have hz3 := ints_all2 hI3
  have hl3 := hz3.length
  have h33 := List.length_take_le 3 ‹List Int›
  refine LCg.CompSrc.ledger rfl F3 N2 (.head _) (by rw [List.size_toArray, sizeLine_eq]; omega) ?_
  intro g2
  rename List Value => ws3
  rename List Int => ns
  have e3 : ws3.toArray.size = (List.take 3 ns).length := by rw [List.size_toArray]; exact hl3
  rw [e3]
  clear F3 N2
  refine comp_all (fun _ => ()) (fun l v _ => ∃ n t, v = .int n t ∧ 0 ≤ n ∧ n < 1000000) (fun v (b : Int) => ∃ t, v = .int b t) (fun _ _ _ _ _ h => h) (fun tl => .inr ⟨_, List.mem_append_left _ (.head _), rfl, _, rfl⟩) ?_ ?_ ?_
  · intro i v hi hv
    exact hz3.get' (by simpa using hv)
  · rintro v b ⟨t, rfl⟩ hb tl ys I oI C oC D m₂ h2 tk2 E' ha hns hx F3 N3
    k_steps
    exact ⟨_, _, [], rfl, F3, news_app_nil N3, Apart.nil, _, _, rfl, Int.fmod_nonneg_of_pos _ (by decide), Int.fmod_lt_of_pos _ (by decide)⟩
  · intro ys tl ha hys
    intro D h2 tk2 F3 N3 off
    dsimp only
    k_steps
    have hyl := hys.length
    rw [List.length_map] at hyl
    k_dflt (refine' kmk_add_lit F3 N3 (News.isList N3 (.tail _ (.tail _ (.head _)))) (News.isList N3 (.head _)) rfl ?_ ?z; (case z => rw [sizeLine_eq]; simp; omega))
    intro D4 h4 F4 N4 l4
    clear F3 N3
    k_steps
    refine unstop ?_
    obtain ⟨zs, N5, hz⟩ : ∃ zs : List Value, News _ _ _ ((D4, W.listOf zs.toArray 0) :: _) ∧ All2 (fun v (_ : Unit) => ∃ n t, v = .int n t ∧ 0 ≤ n ∧ n < 1000000) zs (() :: () :: () :: () :: (List.take 3 ns).map fun _ => ()) :=
      ⟨_, N4, .cons ⟨_, _, rfl, by decide, by decide⟩ (.cons ⟨_, _, rfl, by decide, by decide⟩ (.cons ⟨_, _, rfl, by decide, by decide⟩ (.cons ⟨_, _, rfl, by decide, by decide⟩ hys)))⟩
    have hzl := hz.length
    simp only [List.length_cons, List.length_map] at hzl
    refine LCg.CompSrc.ledger rfl F4 N5 (.head _) (by rw [List.size_toArray, sizeLine_eq]; omega) ?_
    intro g3
    have e5 : zs.toArray.size = (() :: () :: () :: () :: (List.take 3 ns).map fun _ => ()).length := by rw [List.size_toArray]; exact hz.length
    rw [e5]
    clear F4 N5 N4
    refine comp_all (fun _ => ()) (fun l v _ => ∃ row, RowOk row ∧ DrawnIs l v row) (fun v (_ : Unit) => ∃ n t, v = .int n t ∧ 0 ≤ n ∧ n < 1000000) (fun _ _ _ _ h x => by obtain ⟨c, h1, h2⟩ := x; exact ⟨c, h1, h2.mono h⟩) (fun tl => .inr ⟨_, List.mem_append_left _ (.head _), rfl, _, rfl⟩) ?_ ?_ ?_
    · intro i v hi hv
      exact hz.get' (by simpa using hv)
    · rintro v b ⟨n, t, rfl, hn0, hn6⟩ hb tl2 ys2 I oI C oC D5 m₂ h5 tk5 E' ha2 hns hx F5 N5
      k_steps
      refine unstop ?_
      refine cells_ctr B1 F5 X1 N5 T1 rfl hn0 hn6 (by decide) (by decide) ?_
      rintro r tl3 h6 tk6 F6 N6 ha3 ⟨row, hrow, hdr⟩
      k_unfold
      exact ⟨_, _, tl3, rfl, F6, N6, ha3, row, hrow, hdr.mono fun p hp => List.mem_append_right _ hp⟩
    · intro ys2 tl2 ha2 hys2
      intro D5 h5 tk5 F5 N5 off5
      dsimp only
      obtain ⟨rs, hrs, hro⟩ := all2_pick hys2
      have hrl := hrs.length
      have hyl2 := hys2.length
      simp only [List.length_cons, List.length_map] at hyl2
      obtain ⟨nw, N6, hdr, hoff⟩ : ∃ nw, News _ _ _ ((162, tabObj #[]) :: nw) ∧ DrawnAll nw (.ref D5) rs ∧ (∀ p ∈ nw, p.1 ≠ 162) := by
        refine ⟨(D5, LCg.lst ys2) :: tl2, fun p hp => N5 p ?_, ⟨D5, _, ys2, rfl, .head _, hrs.mono fun _ _ => DrawnIs.mono fun p hp => .tail _ hp⟩, fun p hp => ?_⟩
        · rcases List.mem_cons.mp hp with rfl | hp
          · simp
          · rcases List.mem_cons.mp hp with rfl | hp
            · exact .head _
            · exact .tail _ (List.mem_append_right _ hp)
        · rcases List.mem_cons.mp hp with rfl | hp
          · exact Ne.symm (off1_mem off5 (162, tabObj #[]) (by simp))
          · exact Ne.symm (ha2 (162, tabObj #[]) (by simp) p hp)
      clear N5 off5 hys2 ha2 hys ha off
      have h4 : 4 ≤ rs.length := by omega
      have h7 : rs.length ≤ 7 := by omega
      clear hrl hyl2
      k_steps
      refine unstop ?_
      rename Fr _ _ _ _ => F7
      k_dflt (refine LCg.ListComp_U (F₀ := F7) (by with_unfolding_all rfl) (by decide) (by rfl) (by decide) (by rfl) ?_)
      k_steps
      refine unstop ?_
      rename News _ _ _ _ => N7
      rename Fr _ _ _ _ => F7
      rename IntsAre _ (List.take 12 _) => hI12
      have hz12 := ints_all2 hI12
      have hl12 := hz12.length
      have h12 := List.length_take_le 12 ns
      refine LCg.CompSrc.ledger rfl F7 N7 (.head _) (by rw [List.size_toArray, sizeLine_eq]; omega) ?_
      intro g4
      rename List Value => ws12
      have e12 : ws12.toArray.size = (List.take 12 ns).length := by rw [List.size_toArray]; exact hl12
      rw [e12]
      clear F7 N7
      refine comp_all (fun _ => ()) (fun l v _ => ∃ n t, v = .int n t ∧ 0 ≤ n ∧ n < 1000000) (fun v (b : Int) => ∃ t, v = .int b t) (fun _ _ _ _ _ h => h) (fun tl => .inr ⟨_, List.mem_append_left _ (.head _), rfl, _, rfl⟩) ?_ ?_ ?_
      · intro i v hi hv
        exact hz12.get' (by simpa using hv)
      · rintro v b ⟨t, rfl⟩ hb tl3 ys3 I oI C oC D6 m₂ h6 tk6 E' ha3 hns hx F8 N8
        k_steps
        exact ⟨_, _, [], rfl, F8, news_app_nil N8, Apart.nil, _, _, rfl, Int.fmod_nonneg_of_pos _ (by decide), Int.fmod_lt_of_pos _ (by decide)⟩
      · intro ys3 tl3 ha3 hys3
        intro D6 h6 tk6 F8 N8 off6
        dsimp only
        have hyl3 := hys3.length
        rw [List.length_map] at hyl3
        obtain ⟨ms, hms, hmb⟩ := all2_ints hys3
        have hsm := sum_small hmb
        have hml : ys3.length = ms.length := by have := (ints_all2 hms).length; exact this
        k_steps
        refine unstop ?_
        rename News _ _ _ _ => N9
        rename Fr _ _ _ _ => F9
        refine keys_ctr B1 F9 X1 N9 T1 rfl (by omega) (by omega) (by decide) (by decide) ?_
        rintro kv tl4 h7' tk7 F10 N10 ha4 ⟨ks, hkg, hkl, hkv⟩
        obtain ⟨nk, N11, hdr2, hkv2, hoff2⟩ : ∃ nk, News _ _ _ ((162, tabObj #[]) :: nk) ∧ DrawnAll nk (.ref D5) rs ∧ KeysIs nk kv ks ∧ (∀ p ∈ nk, p.1 ≠ 162) := by
          obtain ⟨qa, qn, qvs, qe, q1, q2⟩ := hdr
          refine ⟨tl4 ++ nw, fun p hp => N10 p ?_, ⟨qa, qn, qvs, qe, List.mem_append_right _ q1, q2.mono fun _ _ => DrawnIs.mono fun p hp => List.mem_append_right _ hp⟩, hkv.mono fun p hp => List.mem_append_left _ hp, fun p hp => ?_⟩
          · rcases List.mem_cons.mp hp with rfl | hp
            · simp
            · rcases List.mem_append.mp hp with hp | hp
              · exact List.mem_append_right _ hp
              · exact List.mem_append_left _ (.tail _ (List.mem_append_left _ (.tail _ (.tail _ hp))))
          · rcases List.mem_append.mp hp with hp | hp
            · exact Ne.symm (ha4 (162, tabObj #[]) (by simp) p hp)
            · exact hoff p hp
        clear N10 N9 F9 off6 hys3 ha3 ha4 hdr hkv hoff F8 N8 hms hmb hsm hml hrs hz12 hl12 hz3
        obtain ⟨lk, kk, kvs, rfl, hlk, hkvs⟩ := hkv2
        k_steps
        refine unstop ?_
        rename News _ _ _ _ => N12
        rename Fr _ _ _ _ => F12
        rename (_ ∧ AllLt _ nk) => lc1
        rename (_ < _) => lc2
        obtain ⟨nc, N13, hcp, hsub3, hoff3⟩ := comp_led N12 (by k_get) (by k_get) hlk hkvs hoff2 lc1.1 lc2
        have hkv3 : KeysIs nc (.ref lk) ks := ⟨lk, kk, kvs, rfl, hsub3 _ hlk, hkvs.mono fun _ _ => KeyIs.mono hsub3⟩
        have hdr3 := hdr2.mono hsub3
        clear N12 hlk hkvs hdr2 hoff2 hsub3 lc1 lc2
        refine made_ctr B1 F12 X1 N13 T1 rfl (hdr3.mono fun p hp => .tail _ hp) hro h7 (by decide) (by decide) ?_
        intro lv tl5 h8 tk8 F14 N14 ha5 hmade1
        clear F12 N13
        k_steps
        refine unstop ?_
        rename News _ _ _ _ => N15
        rename Fr _ _ _ _ => F15
        refine made_ctr B1 F15 X1 N15 T1 rfl (hdr3.mono fun p hp => .tail _ (List.mem_append_left _ hp)) hro h7 (by decide) (by decide) ?_
        intro rv tl6 h9 tk9 F16 N16 ha6 hmade2
        clear F15 N15
        obtain ⟨nz, N17, hcp2, hkv4, hdr4, hlm, hrm, hoff4⟩ : ∃ nz, News _ _ _ ((162, tabObj #[]) :: nz) ∧ CompIs nz (.ref _) ks ∧ KeysIs nz (.ref lk) ks ∧ DrawnAll nz (.ref D5) rs ∧ MadeIs nz lv rs ∧ MadeIs nz rv rs ∧ (∀ p ∈ nz, p.1 ≠ 162) := by
          have s1 : ∀ p ∈ nc, p ∈ nc ++ (tl5 ++ tl6) := fun p hp => List.mem_append_left _ hp
          refine ⟨nc ++ (tl5 ++ tl6), fun p hp => N16 p ?_, hcp.mono s1, hkv3.mono s1, hdr3.mono s1, hmade1.mono fun p hp => List.mem_append_right _ (List.mem_append_left _ hp), hmade2.mono fun p hp => List.mem_append_right _ (List.mem_append_right _ hp), fun p hp => ?_⟩
          · simp only [List.cons_append, List.mem_cons, List.mem_append] at hp ⊢
            rcases hp with h | h | h | h
            · exact .inl h
            · exact .inr (.inl (.inl h))
            · exact .inr (.inl (.inr h))
            · exact .inr (.inr h)
          · rcases List.mem_append.mp hp with hp | hp
            · exact hoff3 p hp
            · rcases List.mem_append.mp hp with hp | hp
              · exact Ne.symm (ha5 (162, tabObj #[]) (.head _) p hp)
              · exact Ne.symm (ha6 (162, tabObj #[]) (.head _) p hp)
        clear N16 hcp hkv3 hdr3 hmade1 hmade2 ha5 ha6 hoff3
        obtain ⟨lva, lvn, lvs, rfl, hlva, hlvs⟩ := hlm
        obtain ⟨rva, rvn, rvs, rfl, hrva, hrvs⟩ := hrm
        obtain ⟨dra, drn, drs, hde, hdra, hdrs⟩ := hdr4
        cases hde
        k_steps
        refine unstop ?_
        rename Fr _ _ _ _ => F20
        with_unfolding_all refine For_turns F20 ?_
        k_steps
        refine unstop ?_
        rename News _ _ _ _ => N20
        rename Fr _ _ _ _ => F20
        refine ktu_zip (xs := lvs) (ys := drs) rfl F20 N20 (.tail _ hlva) rfl rfl (.tail _ hdra) rfl rfl ?_
        intro I1 hI1
        clear F20 N20
        refine itemsRest_zip (js := rs) (R1 := RowIs nz) (R2 := DrawnIs nz) (fun m1 => m1 "comp" = some (.ref _) ∧ m1 "keys" = some (.ref lk) ∧ m1 "lefts" = some (.ref lva) ∧ m1 "rights" = some (.ref rva) ∧ m1 "drawn" = some (.ref D5)) (show SubL [(lva, W.listOf lvs.toArray lvn), (D5, W.listOf drs.toArray drn)] ((162, tabObj #[]) :: nz) from ⟨.tail _ hlva, .tail _ hdra, trivial⟩) ?_ hlvs hdrs ⟨rfl, rfl, rfl, rfl, rfl⟩ ?_
        · rintro m1 ⟨q1, q2, q3, q4, q5⟩ h10 tk10 F21 N21
          rw [map_one q1, map_one q2, map_one q3, map_one q4, map_one q5] at F21
          dsimp only
          k_steps
          refine unstop ?_
          rename Fr _ _ _ _ => F30
          obtain ⟨lk', kk2, kvs2, hke, hlk2, hkvs2⟩ := hkv4
          cases hke
          have hkl2 := hkvs2.length
          k_dflt (refine LCp.Assign_ListComp_P (F₀ := F30) (by rfl) (by with_unfolding_all rfl) (by with_unfolding_all rfl) (by decide) (by rfl) (by decide) (by rfl) (by rfl) (by decide) (by rfl) (by rfl) ?_)
          k_steps
          rename News _ _ _ _ => N31
          rename Fr _ _ _ _ => F31
          refine LCp.SrcLP.ledger rfl F31 N31 (.tail _ hlk2) (by rw [List.size_toArray, sizeLine_eq]; omega) ?_
          intro g5
          have e6 : kvs2.toArray.size = ks.length := by rw [List.size_toArray]; exact hkl2
          rw [e6]
          clear F31 N31
          refine comp_pairs (fun k : Int × Int => (k.1, -k.2)) (fun l v k => KeyIs l v k) (fun v₁ v₂ (k : Int × Int) => (∃ t, v₁ = .int k.1 t) ∧ ∃ t, v₂ = .int k.2 t) (fun _ _ _ _ h => KeyIs.mono h) (fun tl2 => .inr ⟨_, List.mem_append_left _ (.tail _ hlk2), rfl, _, rfl⟩) ?_ ?_ ?_
          · intro i v hi hv
            obtain ⟨c, hc, T', n', t1, t2, rfl, hT⟩ := hkvs2.get' (i := i) (a := v) (by simpa using hv)
            exact ⟨c, T', n', _, _, hc, rfl, .tail _ hT, ⟨_, rfl⟩, ⟨_, rfl⟩⟩
          · rintro v₁ v₂ k ⟨⟨t1, rfl⟩, t2, rfl⟩ hkm tl2 ys5 I2 oI2 C2 oC2 D7 m3 h12 tk12 E2 ha7 hns2 hx1 hx2 F32 N32
            k_steps
            rename News _ _ _ _ => N33
            rename Fr _ _ _ _ => F33
            rename (_ ∧ _ ∧ _ ∧ AllLt _ _) => l33
            refine elem_new F33 N33 (fun p hp => hp) ?hne (keyIs_mk (List.mem_append_right _ (.head _)))
            case hne =>
              intro q hq
              rcases List.mem_cons.mp hq with rfl | hq
              · exact Nat.ne_of_lt l33.1
              · rcases List.mem_cons.mp hq with rfl | hq
                · exact Nat.ne_of_lt l33.2.1
                · rcases List.mem_cons.mp hq with rfl | hq
                  · exact Nat.ne_of_lt l33.2.2.1
                  · exact Nat.ne_of_lt (tb_ltOf l33.2.2.2 q hq)
          · intro ys5 tl5 ha7 hys5
            intro D7 h12 tk12 F32 N32 off7
            dsimp only at F32 N32 ⊢
            have hkgt : ∀ k ∈ ks.map (fun k : Int × Int => (k.1, -k.2)), KeyGood k := by
              intro k hk
              obtain ⟨k0, hk0, rfl⟩ := List.mem_map.mp hk
              obtain ⟨g1, g2⟩ := hkg k0 hk0
              exact ⟨g1, by rcases g2 with g2 | g2 <;> simp [g2]⟩
            have hklt : (ks.map (fun k : Int × Int => (k.1, -k.2))).length ≤ 3 := by rw [List.length_map]; exact hkl
            revert hkgt hklt hys5
            generalize ks.map (fun k : Int × Int => (k.1, -k.2)) = kt
            intro hys5 hkgt hklt
            obtain ⟨nt, N34, hlk7, hkvs7, hdt, hlt, hofft⟩ : ∃ nt, News _ _ _ ((162, tabObj #[]) :: nt) ∧ (D7, LCg.lst ys5) ∈ nt ∧ All2 (KeyIs nt) ys5 kt ∧ DrawnAll nt (.ref D5) rs ∧ MadeIs nt (.ref lva) rs ∧ (∀ p ∈ nt, p.1 ≠ 162) := by
              have s1 : ∀ p ∈ nz, p ∈ (D7, LCg.lst ys5) :: (nz ++ tl5) := fun p hp => .tail _ (List.mem_append_left _ hp)
              refine ⟨(D7, LCg.lst ys5) :: (nz ++ tl5), fun p hp => N32 p ?_, .head _, hys5.mono fun _ _ => KeyIs.mono fun p hp => .tail _ (List.mem_append_right _ hp), DrawnAll.mono s1 ⟨_, _, _, rfl, hdra, hdrs⟩, MadeIs.mono s1 ⟨_, _, _, rfl, hlva, hlvs⟩, fun p hp => ?_⟩
              · simp only [List.cons_append, List.mem_cons, List.mem_append] at hp ⊢
                rcases hp with h | h | h
                · exact .inr (.inl h)
                · exact .inl h
                · exact .inr (.inr h)
              · rcases List.mem_cons.mp hp with rfl | hp
                · exact Ne.symm (off1_mem off7 (162, tabObj #[]) (.head _))
                · rcases List.mem_append.mp hp with hp | hp
                  · exact hoff4 p hp
                  · exact Ne.symm (ha7 (162, tabObj #[]) (.head _) p hp)
            clear N32 off7 ha7 hys5
            k_steps
            refine unstop ?_
            rename News _ _ _ _ => N35
            rename Fr _ _ _ _ => F35
            rename (_ ∧ AllLt _ nt) => lc1
            rename (_ < _) => lc2
            obtain ⟨nc2, N36, hcpt, hsubt, hofft2⟩ := comp_led N35 (by k_get) (by k_get) hlk7 hkvs7 hofft lc1.1 lc2
            clear N35
            refine line_top X1 T1 B1 F35 X1 N36 T1 rfl (hcpt.mono fun p hp => .tail _ hp) (hlt.mono fun p hp => .tail _ (hsubt p hp)) (fun k hk => (hkgt k hk).1) hro h7 (by decide) (by decide) ?_
            intro h16 tk16 ln kk5 vs5 tl6 F37 N37 ha8 hln hvs5
            clear F35 N36
            k_steps
            refine unstop ?_
            rename News _ _ _ _ => N38
            rename Fr _ _ _ _ => F38
            obtain ⟨M, hM0, hMw⟩ := within_all rs
            have hs9 : ∀ p ∈ nt, p ∈ nc2 ++ tl6 := fun p hp => List.mem_append_left _ (hsubt p hp)
            have hoff9 : ∀ p ∈ nc2 ++ tl6, p.1 ≠ 162 := by
              intro p hp
              rcases List.mem_append.mp hp with hp | hp
              · exact hofft2 p hp
              · exact Ne.symm (ha8 (162, tabObj #[]) (.head _) p hp)
            refine sorted_ctr (M := M) (news := nc2 ++ tl6) B1 F38 X1 N38 T1 rfl codeHd hoff9 ⟨D7, _, ys5, rfl, hs9 _ hlk7, hkvs7.mono fun _ _ => KeyIs.mono hs9⟩ (hdt.mono hs9) hkgt hro hMw h4 h7 hklt (by decide) (by decide) ?_
            intro h17 tk17 ln2 kk6 vs6 tl7 ps F39 N39 ha9 hln2 hvs6
            clear F38 N38
            have hep := line_is_passes hro hMw hkgt (by omega)
            rw [← hep] at hvs6
            have hi5 := intsOf_are hvs5
            have hi6 := intsOf_are hvs6
            k_steps
            refine unstop ?_
            rename News _ _ _ _ => N40
            rename Fr _ _ _ _ => F40
            have hL5 := News.isList N40 (List.mem_append_left _ (.tail _ (List.mem_append_right _ hln)))
            have hL6 := News.isList N40 (List.mem_append_right _ hln2)
            refine eq_intsK hL5 hi5 hL6 hi6 (by units_room) ?_
            rw [decide_eq_true rfl]
            k_steps
        · rintro xl yl rl m1 hxl hyl hrl ⟨q1, q2, q3, q4, q5⟩ T5 h10 tk10 its hT5 hits F21 N21
          rw [map_one q1, map_one q2, map_one q3, map_one q4, map_one q5] at F21
          dsimp only at F21 N21 ⊢
          refine unpackN_ F21 N21 hT5 rfl rfl rfl ?_
          intro h11 F22 N22
          clear F21 N21
          k_steps
          refine unstop ?_
          rename Fr _ _ _ _ => F22
          with_unfolding_all refine For_turns F22 ?_
          k_steps
          refine unstop ?_
          rename News _ _ _ _ => N23
          rename Fr _ _ _ _ => F23
          refine ktu_zip (xs := rvs) (ys := drs) rfl F23 N23 (List.mem_append_right _ (.tail _ hrva)) rfl rfl (List.mem_append_right _ (.tail _ hdra)) rfl rfl ?_
          intro I2 hI2
          clear F23 N23
          refine itemsRest_zip (js := rs) (R1 := RowIs nz) (R2 := DrawnIs nz) (fun m1 => m1 "comp" = some (.ref _) ∧ m1 "keys" = some (.ref lk) ∧ m1 "lefts" = some (.ref lva) ∧ m1 "rights" = some (.ref rva) ∧ m1 "drawn" = some (.ref D5) ∧ m1 "left" = some xl ∧ m1 "cells" = some yl)
            (show SubL [(rva, W.listOf rvs.toArray rvn), (D5, W.listOf drs.toArray drn)] (its ++ (162, tabObj #[]) :: nz) from ⟨List.mem_append_right _ (.tail _ hrva), List.mem_append_right _ (.tail _ hdra), trivial⟩) ?_ hrvs hdrs ⟨rfl, rfl, rfl, rfl, rfl, rfl, rfl⟩ ?_
          · rintro m2 ⟨q1, q2, q3, q4, q5, q6, q7⟩ h12 tk12 F24 N24
            dsimp only
            k_steps
            exact ⟨_, _, m2, _, rfl, F24, N24, zip_off hI1 hits, rfl, q1, q2, q3, q4, q5⟩
          · rintro xr yr rr m2 hxr hyr hrr ⟨q1, q2, q3, q4, q5, q6, q7⟩ T6 h12 tk12 its2 hT6 hits2 F24 N24
            rw [map_one q1, map_one q2, map_one q3, map_one q4, map_one q5, map_one q6, map_one q7] at F24
            dsimp only at F24 N24 ⊢
            refine unpackN_ F24 N24 hT6 rfl rfl rfl ?_
            intro h13 F25 N25
            clear F24 N24
            k_steps
            refine unstop ?_
            rename News _ _ _ _ => N26
            rename Fr _ _ _ _ => F26
            have hm : ∀ p ∈ nz, p ∈ its2 ++ (its ++ (162, tabObj #[]) :: nz) := fun p hp => List.mem_append_right _ (List.mem_append_right _ (.tail _ hp))
            refine told_top X1 T1 B1 F26 X1 N26 T1 rfl (hcp2.mono hm) (hxl.mono hm) (hxr.mono hm) (fun k hk => (hkg k hk).1) (hro _ hrl) (hro _ hrr) (by decide) (by decide) ?_
            intro h14 tk14 tv F27 N27 htv
            clear F26 N26
            cases hme : meant ks rl rr with
            | none =>
              rw [hme] at htv
              obtain ⟨t1, rfl⟩ := htv
              k_steps
              refine unstop ?_
              rename News _ _ _ _ => N28
              rename Fr _ _ _ _ => F28
              refine meant_ctr B1 F28 X1 N28 T1 rfl (hkv4.mono hm) (hyl.mono hm) (hyr.mono hm) (fun k hk => (hkg k hk).1) (hro _ hrl) (hro _ hrr) (by decide) (by decide) ?_
              intro h15 tk15 mv F29 N29 hmv
              clear F28 N28
              rw [hme] at hmv
              obtain ⟨t2, rfl⟩ := hmv
              k_steps
              exact ⟨_, _, _, _, rfl, F29, N29, zip_off hI2 hits2, rfl, rfl, rfl, rfl, rfl, rfl, rfl, rfl⟩
            | some i =>
              rw [hme] at htv
              obtain ⟨t1, rfl⟩ := htv
              k_steps
              refine unstop ?_
              rename News _ _ _ _ => N28
              rename Fr _ _ _ _ => F28
              refine meant_ctr B1 F28 X1 N28 T1 rfl (hkv4.mono hm) (hyl.mono hm) (hyr.mono hm) (fun k hk => (hkg k hk).1) (hro _ hrl) (hro _ hrr) (by decide) (by decide) ?_
              intro h15 tk15 mv F29 N29 hmv
              clear F28 N28
              rw [hme] at hmv
              obtain ⟨t2, rfl⟩ := hmv
              k_steps
              exact ⟨_, _, _, _, rfl, F29, N29, zip_off hI2 hits2, rfl, rfl, rfl, rfl, rfl, rfl, rfl, rfl⟩)
end Mine
end
theorem PySem.Challenge.cw_pg0051_01_holds : PySem.Challenge.rw_pg0051_01.Holds := by
  exact Mine.law_holds
