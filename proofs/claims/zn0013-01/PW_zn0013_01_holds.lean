import PyProof.Rows.All
import Wide.All
import OpenK.AllK
import Wide.FinOn
import Lean
import PySem.Challenge.RW_zn0013_01
open PySem PySem.W PyProof.Rows
set_option Elab.async false
namespace Mine
def vw : Program := view PySem.Challenge.rw_zn0013_01.row.toRowW.prog [1, 2, 3, 5, 6, 8, 9, 10, 11, 12, 14, 15, 16, 18, 19, 20, 21, 22, 23, 24, 25, 26, 27, 28, 29]
abbrev RR : RowW := PySem.Challenge.rw_zn0013_01.row.toRowW
theorem left_of_boot {p : Program} {N : Nat} {β : Type} {F : Shared → β} {x : World → β}
    (e : opening p = plainProg p.main.scope.names) (hN : Nat.ble 600 N = true) (f : ∀ s, fenceModules? p s = some s)
    (h : ∀ (w : World) (os : OsState), (topFrom treeTable p w N ⟨boot_heap w.params, Array.mk [], boot_drawn, boot_toks, os⟩).map F = some (x w)) (w : World) : (openEnds treeTable p w N).map F = some (x w) := by
  obtain ⟨⟨h', gs, d, k, os⟩, e1, e'⟩ := Option.map_eq_some_iff.mp (boot_open e hN f w)
  obtain ⟨rfl, rfl, rfl, rfl⟩ : h' = boot_heap w.params ∧ gs = Array.mk [] ∧ d = boot_drawn ∧ k = boot_toks := by simpa using e'
  unfold openEnds
  rw [e1]
  exact h w os
theorem my_holds {d : DefRec} {kwd : List (Str × Expr)} (H : Hook) (left : LeftO PySem.Challenge.rw_zn0013_01.row.prog vw [Str.ofString "_Accumulator"] (fun s => xlAt vw [] s && recOk (RowW.records RR) s) H.obs H.val 2644)
    (hdef : defOf vw PySem.Challenge.rw_zn0013_01.row.name = some (d, kwd)) (hp : PySem.Challenge.rw_zn0013_01.row.prog.theDef PySem.Challenge.rw_zn0013_01.row.name = some (d.params, d.body, d.scope)) (hk : kwWritten? d.params.kwonlyargs d.params.kw_defaults = some kwd)
    (k1 : PySem.Challenge.rw_zn0013_01.row.wellSaid = true) (hw : RR.promised) (call : WalkO vw [Str.ofString "_Accumulator"] (XL vw []) H.says RR d kwd fun f vs => PySem.call f vs) : PySem.Challenge.rw_zn0013_01.row.Holds :=
  holds_open left H.of H.keeps (fun s e => xl_of s (Bool.and_eq_true_iff.mp e).1) XL.keeps hdef hp hk (fun s e => recFacts_of (Bool.and_eq_true_iff.mp e).2) (by rfl) k1 (by decide +kernel) ⟨rfl, rfl, rfl, rfl, rfl, by decide +kernel⟩ hw call
local macro_rules | `(tactic| o_law) => `(tactic| refine holds_law (by decide +kernel) fun said => ?_)
local macro_rules | `(tactic| o_head ($_f:ident $K $as $e)) => `(tactic| (
  refine my_holds (kmHook $K $as $e [70, 63]) ?hl (by rfl) (by rfl) (by rfl) (by assumption) ?hw ?hc
  case hl => (refine left_of_boot (by kernel_rfl) (by kernel_rfl) (fun _ => by kernel_rfl) ?_; intro w os; kernel_rfl)))
set_option maxRecDepth 100000 in
set_option maxHeartbeats 8000000 in
open_top hd for PySem.Challenge.rw_zn0013_01
end Mine
open PySem.Calls
set_option maxRecDepth 100000
set_option maxHeartbeats 8000000
namespace Mine
noncomputable abbrev PR : Program := PySem.Challenge.rw_zn0013_01.row.prog
noncomputable abbrev LO : List Str := ["_Accumulator", "_substitution_cost", "floordiv", "contains", "getitem", "indexOf", "setitem", "add_func_stats", "add_callers", "count_calls", "_law_numbers", "_law_mate", "_law_drawn", "_law_struck", "_law_told", "_law_apart", "_law_core", "_law_sewings", "_law_corners", "_law_cuts", "_law_due", "law", "_MOVE_COST", "_CASE_COST", "EMPTYSTRING"]
noncomputable abbrev TT (mean : ExcName → Option Value) (mg mb : Str → Option Value) (h : Heap) : Prop := Top topProg LO mean mg mb h
/-- a code's table of what it has made -/
noncomputable abbrev tabs2 : List (Addr × Addr) := [(74, 70), (67, 63)]
theorem tt_of {mean : ExcName → Option Value} {mg mb : Str → Option Value} {h : Heap} (hT : TabsAt tabs2 h) (T : Top vw (looseW vw [Str.ofString "_Accumulator"]) mean mg mb h) :
    TT mean mg mb (ghostOf h tabs2) := by
  have e : looseW vw [Str.ofString "_Accumulator"] ++ (recsOf vw).map (·.name) ++ (litsOf vw).map (·.1) ++ (clssOf vw (looseW vw [Str.ofString "_Accumulator"])).map (·.name) = LO := by kernel_rfl
  have t := ghost_top hT T
  rw [e] at t
  exact t
noncomputable abbrev Led := List (Addr × Obj)
/-- the return of a contract -/
noncomputable abbrev Ret (h₀ : Heap) (L : Addr) (m : Str → Option Value) (s : Shared) (Q : Value → Shared → Prop) (Post : Value → Led → Prop) : Prop :=
  ∀ (v : Value) (h' : Heap) (tk' : Nat) (news' : Led), Fr h₀ L h' m → News h₀ L h' news' → Post v news' → Q v { s with heap := h', toks := tk' }
/-- a contract of a def -/
noncomputable def Spec (w : World) (f : Addr) (d u : Nat) (vs : List Value) (news : Led) (Post : Value → Led → Prop) : Prop :=
  ∀ (mean : ExcName → Option Value) (mg mb : Str → Option Value) (dp un : Nat) (gd : Option (List Code)) (cn : Str) (cs : Scope) (a : Addr) (ccd : Value) (cl : List (Str × Addr)) (outer : List Env) (A₀ : Around) (base h₀ : Heap) (L : Addr) (m : Str → Option Value) (s : Shared) (Q E : Value → Shared → Prop),
    Below A₀ base outer h₀ → Fr h₀ L s.heap m → (hd.heap_1 w.params).In h₀ → News h₀ L s.heap news → TT mean mg mb h₀ → cs.kind = .function → dp + d < recursionLimit → un + u < cLine →
    Ret h₀ L m s Q Post → wpAny (model PR w) (ktrTop dp un gd cn cs L a ccd cl outer) (call (.ref f) vs) Q E s
end Mine
namespace Mine
theorem fill_one : ∀ (w : World) (h : Heap), (hd.heap_1 w.params).In h → (∃ _ : PySem.Challenge.rw_zn0013_01.Holds, True) → True := by
  k_fill
  intros; trivial
section
set_option maxHeartbeats 4000000
/-- an accumulator: an own list with a dict -/
noncomputable abbrev accO (d : Addr) (vs : List Value) (n : Nat) : Obj := { cls := .ref 101, dict := some d, data := .seq vs.toArray n }

noncomputable def lmakesIn (K : Frag) (C : Addr) : Bool := match K.lookup C with
  | some ⟨_, _, .cls cd, sl⟩ => !cd.abstract && !cd.hasDel && (sl.toList[4]?).join == some (.builtin "list.__new__") && !cd.mro.isEmpty && cd.mro.contains (.ref C) && cd.mro.contains (.type "list") &&
      specialIn K (.ref C) "__call__" == some (some (.builtin "type.__call__")) && instIn K (.ref C) (.type "type") == some true
  | _ => false
structure LMakes (M : Model) (h : Heap) (C : Addr) : Prop where
  obj : ∃ oc od cd sl, h.get? C = some ⟨oc, od, .cls cd, sl⟩ ∧ cd.abstract = false ∧ cd.hasDel = false ∧ cd.mro.isEmpty = false
  made : Looks M h (Bind.madeBy (.ref C)) (some "list.__new__")
  base : Looks M h (Bind.staticBase (.ref C)) (.ref C)
  self : Looks M h (isSubtype (.ref C) (.ref C)) true
  top : Looks M h (isSubtype (.ref C) (.type "list")) true
  call : Looks M h (specialOf (.ref C) "__call__") (some (.builtin "type.__call__"))
  typ : Looks M h (isInstance (.ref C) (.type "type")) true
theorem lmakes_of {K : Frag} {M : Model} {h : Heap} (X : K.In h) {C : Addr} (e : lmakesIn K C = true) : LMakes M h C := by
  unfold lmakesIn at e
  split at e
  · rename_i oc od cd sl ho
    simp only [Bool.and_eq_true, Bool.not_eq_true', beq_iff_eq] at e
    obtain ⟨⟨⟨⟨⟨⟨⟨e1, e2⟩, e3⟩, e4⟩, e5⟩, e6⟩, e7⟩, e8⟩ := e
    have hc : clsIn K C = some cd := by unfold clsIn; rw [ho]
    have hm : Looks M h (mroOf (.ref C)) cd.mro := (looks_clsIn X hc).andThen .now
    obtain ⟨c, l, hl⟩ : ∃ c l, cd.mro = c :: l := by cases q : cd.mro with | nil => rw [q] at e4; cases e4 | cons c l => exact ⟨c, l, rfl⟩
    have made : Looks M h (Bind.madeBy (.ref C)) (some "list.__new__") := by
      intro A Q E s k q
      unfold Bind.madeBy
      refine wpAny_bind (hm A _ E s k ?_)
      rw [hl, List.forIn_cons]
      refine wpAny_bind (wpAny_bind (wpAny_bind (wpAny_bind (wpAny_loadPart (k _ _ (X _ _ ho)) (wpAny_pure ?_)))))
      dsimp only
      rw [← Array.getElem?_toList, e3]
      exact wpAny_pure (wpAny_pure (wpAny_pure q))
    refine ⟨⟨oc, od, cd, sl, X _ _ ho, e1, e2, e4⟩, made, ?_, looks_mroIn X ?_, looks_mroIn X ?_, looks_specialIn X e7, looks_instIn X e8⟩
    · intro A Q E s k q
      unfold Bind.staticBase
      refine wpAny_bind (hm A _ E s k ?_)
      rw [hl, List.forIn_cons]
      exact wpAny_bind (wpAny_bind (wpAny_bind (made A _ E s k (wpAny_pure (wpAny_pure (wpAny_pure q))))))
    · unfold mroIn; rw [hc, Option.bind_some, if_neg (by rw [e4]; decide), e5]
    · unfold mroIn; rw [hc, Option.bind_some, if_neg (by rw [e4]; decide), e6]
  · cases e

theorem ln_kind : builtinKind "list.__new__" = some .builtinFn := by decide +kernel
theorem ln_split : splitId "list.__new__" = some ("list", "__new__") := by decide +kernel

theorem ln_args (C : Addr) : argsOk "list.__new__" ⟨[.ref C], []⟩ := by unfold argsOk; kernel_rfl
section
variable {prog : Program} {w : World} {A : Around} {K : Frag} {C : Addr} {R : Result → Shared → Prop} {h : Heap} {g : Array GenState} {d : Drawn} {t : Nat} {os : OsState}
theorem ln_check {M : Model} {A : Around} {E : Value → Shared → Prop} {Q : Unit → Shared → Prop} (Y : LMakes M h C) (hq : Q () ⟨h, g, d, t, os⟩) :
    wpAny M A (checkBuiltinCall "list.__new__" ⟨[.ref C], []⟩) Q E ⟨h, g, d, t, os⟩ := by
  obtain ⟨⟨oc, od, cd, sl, hC, e1, e2, e4⟩, made, base, self, top, call, typ⟩ := Y
  have ha := ln_args C
  simp only [checkBuiltinCall, ln_kind, ln_split]
  cases hsig : Manifest.signature? "list.__new__" with
  | none =>
    repeat (first | simp only [bne_self_eq_false, Bool.false_eq_true, if_false, Bool.not_true] | lk)
    exact hq
  | some sig =>
    simp only [argsOk, hsig] at ha
    have h2 : Bind.checkArgs "list.__new__" sig ⟨[.ref C], []⟩ = pure () := ha
    repeat (first | simp only [h2, bne_self_eq_false, Bool.false_eq_true, if_false, Bool.not_true] | lk)
    exact hq
theorem ln_new {E : Value → Shared → Prop} {Q : Value → Shared → Prop} (Y : LMakes (model prog w) h C)
    (hq : Q (.ref (h.objs.size + 1)) ⟨(h.push emptyDict).push { cls := .ref C, dict := some h.objs.size, data := .seq #[] }, g, d, t, os⟩) :
    wpAny (model prog w) A (call (.builtin "list.__new__") [.ref C]) Q E ⟨h, g, d, t, os⟩ := by
  have Y' := Y
  obtain ⟨⟨oc, od, cd, sl, hC, e1, e2, e4⟩, made, base, self, top, call, typ⟩ := Y
  refine wpAny_call (codeAny_call_builtin_code (Code.quiet_builtin _ (by decide +kernel)) (ln_check Y' ?_))
  refine codeAny_builtin_stack PySem.F.entry_list_new rfl fun p st => ?_
  rw [Around.under_plainId PySem.F.plain_list_new _]
  have hown := owner_list_new
  simp only [hown]
  have hC1 := Heap.get?_push_of_some emptyDict hC
  have hC2 := Heap.get?_push_of_some ({ cls := .ref C, dict := some h.objs.size, data := .seq #[] } : Obj) hC1
  repeat (first | simp only [e2, Bool.not_true, Bool.false_eq_true, if_false] | lk)
  rw [Heap.size_push]
  exact hq
theorem lmake_core {init : Value} (Y : LMakes (model prog w) h C) (hi : Looks (model prog w) h (typeLookup (.ref C) "__init__") (some init))
    (hb : ∀ self, Looks (model prog w) h (bindSpecial init self) (init, [self]))
    (hq : codeAny (model prog w) (A.under (.builtin "type.__call__" ⟨[.ref C], []⟩)) (.call init ⟨[.ref (h.objs.size + 1)], []⟩) (InitBack (h.objs.size + 1) R) ⟨(h.push emptyDict).push { cls := .ref C, dict := some h.objs.size, data := .seq #[] }, g, d, t, os⟩) :
    codeAny (model prog w) A (.call (.ref C) ⟨[], []⟩) R ⟨h, g, d, t, os⟩ := by
  have Y' := Y
  obtain ⟨⟨oc, od, cd, sl, hC, e1, e2, e4⟩, made, base, self, top, call, typ⟩ := Y
  refine codeAny_of_tree ?_
  show wpAny _ _ (callAny (.ref C) _) _ _ _
  refine nd_load hC ?_
  show wpAny _ _ (callAny.viaDunder (.ref C) _) _ _ _
  unfold callAny.viaDunder
  refine wpAny_bind (call.at ?_)
  dsimp only
  rw [tc_bind]
  refine wpAny_bind (wpAny_pure (wpAny_bind (wpAny_pure ?_)))
  refine wpAny_pure (a := Fin.again (.call (.builtin "type.__call__") ⟨[.ref C], []⟩)) (And.intro rfl ?_)
  refine codeAny_call_builtin_at (Code.quiet_builtin _ (by decide +kernel)) entry_typeCall (check_slot (self := .ref C) (rest := []) (kw := []) tc_kind tc_split typ (tc_args (.ref C) [] []) ?_)
  unfold Builtin.«type.__call__»
  have hm : Looks (model prog w) h (mroOf (.ref C)) cd.mro := ((Looks.ld (part := none) hC).andThen .now).andThen .now
  have k : ∀ b o, h.get? b = some o → ((h.push emptyDict).push { cls := .ref C, dict := some h.objs.size, data := .seq #[] }).get? b = some o := fun b o e => Heap.get?_push_of_some _ (Heap.get?_push_of_some _ e)
  have hx : ((h.push emptyDict).push { cls := .ref C, dict := some h.objs.size, data := .seq #[] }).get? (h.objs.size + 1) = some { cls := .ref C, dict := some h.objs.size, data := .seq #[] } := by heap_get
  have t1 : Looks (model prog w) ((h.push emptyDict).push { cls := .ref C, dict := some h.objs.size, data := .seq #[] }) (typeOf (.ref (h.objs.size + 1))) (.ref C) := (Looks.ld hx).andThen .now
  have s1 := self.keeps k
  have i1 := hi.keeps k
  have b1 := (hb (.ref (h.objs.size + 1))).keeps k
  repeat (first | simp only [e4, Bool.false_eq_true, if_false] | with_reducible refine ln_new Y' ?_ | with_reducible refine wpAny_call ?_ | lk)
  refine codeAny_mono hq fun r s' z => ?_
  rcases r with e | (v | _ | _ | _) <;> first | exact z | exact z.elim | skip
  obtain ⟨rfl, z⟩ := z
  exact wpAny_pure (wpAny_pure z)
end
section
variable {prog : Program} {w : World} {A : Around} {K : Frag} {s : Shared} {h₀ : Heap} {L : Addr} {m : Str → Option Value} {news : List (Addr × Obj)} {Q E : Value → Shared → Prop}
theorem call_acc {fI : Addr} (F : Fr h₀ L s.heap m) (X₀ : K.In h₀) (N : News h₀ L s.heap news) (hm : lmakesIn K 101 = true)
    (hi : findIn K (.ref 101) "__init__" = some (some (.ref fI))) (hf : typeIn K (.ref fI) = some (.type "function"))
    (h : ∀ x dx h', Fr h₀ L h' m → News h₀ L h' ((x, accO dx [] 0) :: (dx, dictOf [] 0) :: news) → (∀ p ∈ news, p.1 < dx) → dx < x →
      codeAny (model prog w) (A.under (.builtin "type.__call__" ⟨[.ref 101], []⟩)) (.call (.ref fI) ⟨[.ref x], []⟩) (InitBack x fun r s' => match r with | .ok (.ret v) => Q v s' | .ok _ => False | .error e => E e s') { s with heap := h' }) :
    wpAny (model prog w) A (call (.ref 101) []) Q E s := by
  have X : K.In s.heap := X₀.keeps F.keep
  obtain ⟨hh, g, d, t, os⟩ := s
  refine wpAny_call (lmake_core (lmakes_of X hm) (looks_findIn X hi) (fun self => bind_fn X self hf) (h _ hh.objs.size _ ((F.push _).push _) ?_ (fun p hp => Heap.lt_size (N p hp).1) (Nat.lt_succ_self _)))
  have := (N.push F emptyDict).push (F.push _) (accO hh.objs.size [] 0)
  rwa [Heap.size_push] at this
end
theorem lmakes101 (w : World) : lmakesIn (hd.heap_1 w.params) 101 = true := by kernel_rfl
theorem find_init (w : World) : findIn (hd.heap_1 w.params) (.ref 101) "__init__" = some (some (.ref 38)) := by k_is
end
section
set_option maxHeartbeats 4000000
theorem t_init : typeOf (.builtin "list.__init__") = pure (.type "wrapper_descriptor") := by show builtinType _ = _; rw [builtinType_eq_fast]; kernel_rfl
theorem t_len : typeOf (.builtin "list.__len__") = pure (.type "wrapper_descriptor") := by show builtinType _ = _; rw [builtinType_eq_fast]; kernel_rfl
theorem t_pop : typeOf (.builtin "list.pop") = pure (.type "method_descriptor") := by show builtinType _ = _; rw [builtinType_eq_fast]; kernel_rfl
theorem slot_wd_get : Slot "wrapper_descriptor" "__get__" "wrapper_descriptor.__get__" := .of (owner := "wrapper_descriptor") (n := "__get__") (by rw [typeLookup_type, builtinLookup_eq_fast]; kernel_rfl) (by decide +kernel) (by decide +kernel) (by decide +kernel)
  (by first | exact .inl (by decide +kernel) | exact .inr (by decide +kernel)) (by rw [isSubtype_type]; kernel_rfl)
theorem slot_md_get : Slot "method_descriptor" "__get__" "method_descriptor.__get__" := .of (owner := "method_descriptor") (n := "__get__") (by rw [typeLookup_type, builtinLookup_eq_fast]; kernel_rfl) (by decide +kernel) (by decide +kernel) (by decide +kernel)
  (by first | exact .inl (by decide +kernel) | exact .inr (by decide +kernel)) (by rw [isSubtype_type]; kernel_rfl)
theorem entry_wd_get : entryFor table "wrapper_descriptor.__get__" = some Builtin.«wrapper_descriptor.__get__» := entryFor_of_tree (by kernel_rfl)
theorem entry_md_get : entryFor table "method_descriptor.__get__" = some Builtin.«method_descriptor.__get__» := entryFor_of_tree (by kernel_rfl)
theorem args_wd (a b c : Value) : argsOk "wrapper_descriptor.__get__" ⟨[a, b, c], []⟩ := by unfold argsOk; kernel_rfl
theorem args_md (a b c : Value) : argsOk "method_descriptor.__get__" ⟨[a, b, c], []⟩ := by unfold argsOk; kernel_rfl
/-- a built-in method bound to x -/
noncomputable abbrev bndO (cls : String) (id : String) (x : Addr) : Obj := { cls := .type cls, dict := none, data := .fields #[.builtin id, .ref x], slots := #[] }
section
variable {prog : Program} {w : World} {A : Around} {E : Value → Shared → Prop} {h : Heap} {g : Array GenState} {d : Drawn} {t : Nat} {os : OsState}
theorem own_init : ".".intercalate ("list.__init__".cutAt '.').dropLast = "list" := by decide +kernel
theorem own_len : ".".intercalate ("list.__len__".cutAt '.').dropLast = "list" := by decide +kernel
theorem own_pop : ".".intercalate ("list.pop".cutAt '.').dropLast = "list" := by decide +kernel
theorem wd_run {id : String} {x C dd : Addr} {dat : Data} {sl : Array (Option Value)} {Q : Fin → Shared → Prop} (hx : h.get? x = some ⟨.ref C, some dd, dat, sl⟩) (hs : ∀ n, n = "list" → Looks (model prog w) h (isSubtype (.ref C) (.type n)) true) (ho : (id = "list.__init__" ∨ id = "list.__len__"))
    (hq : Q (.done (.ret (.ref h.objs.size))) ⟨h.push (bndO "method-wrapper" id x), g, d, t, os⟩) :
    wpAny (model prog w) A (Builtin.«wrapper_descriptor.__get__» ⟨[.builtin id, .ref x, .ref C], []⟩) Q E ⟨h, g, d, t, os⟩ := by
  rcases ho with rfl | rfl
  · repeat (first | (with_reducible refine Looks.at (hs _ ?e) ?_; (case e => decide +kernel)) | simp only [Bool.not_true, Bool.false_eq_true, if_false] | lk)
    exact hq
  · repeat (first | (with_reducible refine Looks.at (hs _ ?e) ?_; (case e => decide +kernel)) | simp only [Bool.not_true, Bool.false_eq_true, if_false] | lk)
    exact hq
theorem md_run {x C dd : Addr} {dat : Data} {sl : Array (Option Value)} {Q : Fin → Shared → Prop} (hx : h.get? x = some ⟨.ref C, some dd, dat, sl⟩) (hs : ∀ n, n = "list" → Looks (model prog w) h (isSubtype (.ref C) (.type n)) true)
    (hq : Q (.done (.ret (.ref h.objs.size))) ⟨h.push (bndO "builtin_function_or_method" "list.pop" x), g, d, t, os⟩) :
    wpAny (model prog w) A (Builtin.«method_descriptor.__get__» ⟨[.builtin "list.pop", .ref x, .ref C], []⟩) Q E ⟨h, g, d, t, os⟩ := by
  repeat (first | (with_reducible refine Looks.at (hs _ ?e) ?_; (case e => decide +kernel)) | simp only [Bool.not_true, Bool.false_eq_true, if_false] | lk)
  exact hq
/-- super's own look, a built-in found: T its descriptor's type, G the descriptor's __get__ -/
theorem ls_ga {so D x C dd : Addr} {T G W id : String} {b : Builtin} {dat : Data} {sl : Array (Option Value)} {l₀ l : List Value} {K : Frag} {name : Str} {tk : Tok} {Q : Fin → Shared → Prop}
    (hx : h.get? x = some ⟨.ref C, some dd, dat, sl⟩)
    (hso : h.get? so = some { cls := .type "super", dict := none, data := .fields #[.ref D, .ref x, .ref C], slots := #[] }) (hno : Looks (model prog w) h (opaqueClassAbove (.ref C)) none)
    (hC : Looks (model prog w) h (mroOf (.ref C)) l₀) (hl : (l₀.dropWhile (· != .ref D)).drop 1 = l) (X : K.In h)
    (hf : alongIn K name l = some (some (.builtin id))) (hxC : x ≠ C) (hn : (name == ("__class__" : Str)) = false)
    (hT : typeOf (.builtin id) = pure (.type T)) (S : Slot T "__get__" G) (eG : entryFor table G = some b) (aG : argsOk G ⟨[.builtin id, .ref x, .ref C], []⟩)
    (hrun : ∀ {A : Around} {E : Value → Shared → Prop} {Q : Fin → Shared → Prop} {g d t os}, Q (.done (.ret (.ref h.objs.size))) ⟨h.push (bndO W id x), g, d, t, os⟩ → wpAny (model prog w) A (b ⟨[.builtin id, .ref x, .ref C], []⟩) Q E ⟨h, g, d, t, os⟩)
    (hq : Q (.done (.ret (.ref h.objs.size))) ⟨h.push (bndO W id x), g, d, t, os⟩) :
    wpAny (model prog w) A (Builtin.«super.__getattribute__» ⟨[.ref so, .str name tk], []⟩) Q E ⟨h, g, d, t, os⟩ := by
  have hlk := S.lookup
  have hne : (Value.ref x == Value.ref C) = false := by simp [hxC]
  have hdt : ({ cls := .type "super", dict := none, data := .fields #[.ref D, .ref x, .ref C], slots := #[] } : Obj).data = .fields #[.ref D, .ref x, .ref C] := rfl
  have f0 : (#[.ref D, .ref x, .ref C] : Array Value)[0]? = some (.ref D) := rfl
  have f1 : (#[.ref D, .ref x, .ref C] : Array Value)[1]? = some (.ref x) := rfl
  have f2 : (#[.ref D, .ref x, .ref C] : Array Value)[2]? = some (.ref C) := rfl
  unfold Builtin.«super.__getattribute__»
  repeat (first
    | (with_reducible refine wpAny_field hso hdt f0 ?_) | (with_reducible refine wpAny_field hso hdt f1 ?_) | (with_reducible refine wpAny_field hso hdt f2 ?_)
    | (with_reducible refine ks_wpAny_notOpaque hno ?_)
    | (with_reducible refine Looks.at hC ?_; rw [hl])
    | (refine ks_forIn_along X (fun _ _ => rfl) rfl ?_ hf)
    | (with_reducible refine wpAny_of_eq hT ?_)
    | (with_reducible refine ⟨_, rfl, ?_⟩)
    | (refine wpAny_call_entry S (show (⟨h, g, d, t, os⟩ : Shared).TypeIs (.builtin id) T from hT) eG (hrun ?_) aG)
    | (simp only [hn, hne, Bool.or_false, Bool.false_eq_true, if_false])
    | wp_step
    | dsimp only)
  all_goals exact hq
theorem ls_getMethod {so D x C dd : Addr} {T G W id : String} {b : Builtin} {dat : Data} {sl : Array (Option Value)} {l₀ l : List Value} {K : Frag} {name : Str} {pl : Sem Bool} {Q : Value × List Value → Shared → Prop}
    (hx : h.get? x = some ⟨.ref C, some dd, dat, sl⟩)
    (hso : h.get? so = some { cls := .type "super", dict := none, data := .fields #[.ref D, .ref x, .ref C], slots := #[] }) (hno : Looks (model prog w) h (opaqueClassAbove (.ref C)) none)
    (hC : Looks (model prog w) h (mroOf (.ref C)) l₀) (hl : (l₀.dropWhile (· != .ref D)).drop 1 = l) (X : K.In h)
    (hf : alongIn K name l = some (some (.builtin id))) (hxC : x ≠ C) (hn : (name == ("__class__" : Str)) = false)
    (hT : typeOf (.builtin id) = pure (.type T)) (S : Slot T "__get__" G) (eG : entryFor table G = some b) (aG : argsOk G ⟨[.builtin id, .ref x, .ref C], []⟩)
    (hrun : ∀ {A : Around} {E : Value → Shared → Prop} {Q : Fin → Shared → Prop} {g d t os}, Q (.done (.ret (.ref h.objs.size))) ⟨h.push (bndO W id x), g, d, t, os⟩ → wpAny (model prog w) A (b ⟨[.builtin id, .ref x, .ref C], []⟩) Q E ⟨h, g, d, t, os⟩)
    (hq : Q (.ref h.objs.size, []) ⟨h.push (bndO W id x), g, d, t + 1, os⟩) :
    wpAny (model prog w) A (getMethod (.ref so) name pl) Q E ⟨h, g, d, t, os⟩ := by
  have hlk := F.ks_slot_super_ga.lookup
  have hcan := F.ks_canon_super_ga
  have hT' : ∀ t', (⟨h, g, d, t', os⟩ : Shared).TypeIs (.ref so) "super" := fun _ => ⟨_, hso, rfl⟩
  unfold getMethod
  refine wpAny_bind (wpAny_specialOf (hT' _) hlk ?_)
  show wpAny _ _ (if (Manifest.canonical "super.__getattribute__" != "object.__getattribute__") = true then _ else _) _ _ _
  rw [if_pos hcan]
  unfold getAttr getAttrBy
  refine wpAny_bind (wpAny_bind (wpAny_mkText (wpAny_holding (wpAny_bind (wpAny_typeOf (hT' _) (wpAny_bind (wpAny_of_eq hlk ?_)))))))
  show wpAny _ _ (getAttrByItsOwn (.ref so) (.str name t) (.type "super") (.builtin "super.__getattribute__") true false) _ _ _
  unfold getAttrByItsOwn hookBefore callGetattribute boundAndCalled
  refine wpAny_bind (wpAny_of_eq (show (if onTheHeap (.type "super") then typeLookup (.type "super") "__getattr__" else pure none) = pure none from rfl) ?_)
  refine wpAny_bind (wpAny_attempt (wpAny_holding ?_))
  show wpAny _ _ (bindSpecial (.builtin "super.__getattribute__") (.ref so) >>= _) _ _ _
  refine wpAny_bind (wpAny_of_eq (F.ks_slot_super_ga.bind _) ?_)
  refine wpAny_mono (Q := fun v s' => v = .ref h.objs.size ∧ s' = ⟨h.push (bndO W id x), g, d, t + 1, os⟩) (E := fun _ _ => False)
    (wpAny_call_entry F.ks_slot_super_ga (hT' _) F.ks_entry_super_ga (ls_ga hx hso hno hC hl X hf hxC hn hT S eG aG hrun ⟨_, rfl, rfl, rfl⟩) (F.ks_gaArgs_super _ _)) (fun v s' hv => ?_) fun _ _ z => z.elim
  obtain ⟨rfl, rfl⟩ := hv
  exact wpAny_pure (wpAny_pure hq)
/-- a call of a bound built-in -/
theorem bnd_call {q x : Addr} {cls id : String} {b : Builtin} {rest : List Value} {Q : Value → Shared → Prop} {s : Shared} (hc : (Value.type cls == .type "method") = false) (hc2 : (Value.type cls == .type "builtin_function_or_method" || Value.type cls == .type "method-wrapper") = true)
    (hq : s.heap.get? q = some (bndO cls id x)) (hp : plainId id = true) (hb : entryFor table id = some b)
    (hck : ∀ {A : Around} {Q : Unit → Shared → Prop} {E : Value → Shared → Prop}, Q () s → wpAny (model prog w) A (checkBoundCall id ⟨.ref x :: rest, []⟩) Q E s)
    (h : wpAny (model prog w) A.in1 (b ⟨.ref x :: rest, []⟩) (fun fin s' => ∃ v, fin = .done (.ret v) ∧ Q v s') E s) :
    wpAny (model prog w) A (call (.ref q) rest) Q E s := by
  refine wpAny_call (codeAny_of_tree ?_)
  show wpAny _ A.in1 (callAny (.ref q) _) _ _ _
  unfold callAny
  refine wpAny_bind (wpAny_load hq ?_)
  dsimp only
  rw [show (Value.type cls == .type "method" || Value.type cls == .type "builtin_function_or_method" || Value.type cls == .type "method-wrapper") = true by rw [hc, Bool.false_or, hc2]]
  simp only [if_true]
  have hne : (Value.type cls != .type "method") = true := by rw [bne, hc]; rfl
  show wpAny _ _ (if (Value.type cls != .type "method") = true then do checkBoundCall id ⟨.ref x :: rest, []⟩; again (.builtin id ⟨.ref x :: rest, []⟩) else again (.call (.builtin id) ⟨.ref x :: rest, []⟩)) _ _ _
  rw [if_pos hne]
  refine wpAny_bind (hck (wpAny_pure ⟨plainId_quiet hp _, codeAny_builtin hb ?_⟩))
  rw [Around.under_plainId hp _]
  refine wpAny_mono h (fun fin s' h' => ?_) fun _ _ e => e
  obtain ⟨v, rfl, hv⟩ := h'
  exact hv
end
end
section
set_option maxHeartbeats 4000000
/-- the ledger where the object at x is another now -/
noncomputable def upd (x : Addr) (o : Obj) (led : Led) : Led := (x, o) :: led.filter (fun p => p.1 != x)
theorem upd_self {x : Addr} {o : Obj} {led : Led} : (x, o) ∈ upd x o led := List.mem_cons_self
theorem upd_other {x : Addr} {o : Obj} {led : Led} {p : Addr × Obj} (h : p ∈ led) (hne : p.1 ≠ x) : p ∈ upd x o led :=
  List.mem_cons_of_mem _ (List.mem_filter.mpr ⟨h, by simp [hne]⟩)
section
variable {h₀ h : Heap} {L x : Addr} {m : Str → Option Value} {led : Led} {o o' : Obj}
theorem News.sub {led' : Led} (N : News h₀ L h led) (hs : ∀ p ∈ led', p ∈ led) : News h₀ L h led' := fun p hp => N p (hs p hp)
theorem News.inj (N : News h₀ L h led) {a : Addr} {o₁ o₂ : Obj} (h1 : (a, o₁) ∈ led) (h2 : (a, o₂) ∈ led) : o₁ = o₂ := by
  have e1 := (N _ h1).1
  have e2 := (N _ h2).1
  exact Option.some.inj (e1.symm.trans e2)
theorem News.ne (N : News h₀ L h led) {a b : Addr} {o₁ o₂ : Obj} (h1 : (a, o₁) ∈ led) (h2 : (b, o₂) ∈ led) (hc : o₁.cls ≠ o₂.cls) : a ≠ b := by
  rintro rfl
  exact hc (congrArg Obj.cls (News.inj N h1 h2))
theorem led_update (F : Fr h₀ L h m) (N : News h₀ L h led) (hm : (x, o) ∈ led) (f : Obj → Obj) (hf : f o = o') (hfree : o'.isFreed = false) :
    Fr h₀ L (h.update x f) m ∧ News h₀ L (h.update x f) (upd x o' led) := by
  have D := N (x, o) hm
  obtain ⟨oL, es, ep, hL, r⟩ := F.ns
  refine ⟨⟨⟨oL, es, ep, (Heap.get?_update_ne _ _ _ _ (Ne.symm D.2.1)).trans hL, r⟩, fun b y q => (Heap.get?_update_ne _ _ _ _ fun z => ?_).trans (F.keep b y q), F.above⟩, fun p hp => ?_⟩
  · have := D.2.2; rw [← z, q] at this; cases this
  · rcases List.mem_cons.mp hp with rfl | q
    · exact ⟨hf ▸ Heap.get?_update_self _ D.1 (hf ▸ hfree), D.2⟩
    · obtain ⟨q1, q2⟩ := List.mem_filter.mp q
      have hne : p.1 ≠ x := by simpa using q2
      have P := N p q1
      exact ⟨(Heap.get?_update_ne _ _ _ _ hne).trans P.1, P.2⟩
end

theorem sub_list (w : World) : mroIn (hd.heap_1 w.params) 101 (.type "list") = some true := by k_is
theorem sub_module (w : World) : mroIn (hd.heap_1 w.params) 101 (.type "module") = some false := by k_is
theorem fa_ga (w : World) : findIn (hd.heap_1 w.params) (.ref 101) "__getattribute__" = some (some (.builtin "list.__getattribute__")) := by k_is
theorem fa_g (w : World) : findIn (hd.heap_1 w.params) (.ref 101) "__getattr__" = some none := by k_is

section
variable {w : World} {M : Model} {h : Heap} {x d : Addr} {vs : List Value} {n : Nat}
theorem acc_type (hx : h.get? x = some (accO d vs n)) : Looks M h (typeOf (.ref x)) (.ref 101) := (Looks.ld hx).andThen .now
theorem acc_inst (X : (hd.heap_1 w.params).In h) (hx : h.get? x = some (accO d vs n)) : Looks M h (isInstance (.ref x) (.type "list")) true := (acc_type hx).andThen (looks_mroIn X (sub_list w))
theorem acc_instAt {od : Obj} (hx : h.get? x = some (accO d vs n)) (hd : h.get? d = some od) : InstAt h x (accO d vs n) 101 (some od) := ⟨hx, rfl, rfl, hd⟩
end

theorem check_meth {M : Model} {A : Around} {E : Value → Shared → Prop} {s : Shared} {i owner n : String} {self : Value} {rest : List Value} {kw : List (Str × Value)} {Q : Unit → Shared → Prop}
    (hk : builtinKind i = some .method) (hs : splitId i = some (owner, n)) (hi : Looks M s.heap (isInstance self (.type owner)) true) (ha : argsOk i ⟨self :: rest, kw⟩) (q : Q () s) :
    wpAny M A (checkBuiltinCall i ⟨self :: rest, kw⟩) Q E s := by
  simp only [checkBuiltinCall, hk, hs]
  refine wpAny_bind (hi.here ?_)
  simp only [Bool.not_true, Bool.false_eq_true, if_false]
  cases hsig : Manifest.signature? i with
  | none => exact wpAny_pure q
  | some sig =>
    simp only [argsOk, hsig] at ha
    have h2 : Bind.checkArgs i sig ⟨self :: rest, kw⟩ = pure () := ha
    show wpAny M A (Bind.checkArgs i sig ⟨self :: rest, kw⟩) Q E s
    rw [h2]; exact wpAny_pure q

/-- a call of a built-in method (kind: method or slot) on an own list -/
theorem call_on {prog : Program} {w : World} {A : Around} {E : Value → Shared → Prop} {s : Shared} {i owner n : String} {b : Builtin} {self : Value} {rest : List Value} {Q : Value → Shared → Prop}
    (hk : builtinKind i = some .method ∨ builtinKind i = some .slot) (hs : splitId i = some (owner, n)) (hp : plainId i = true) (hb : entryFor table i = some b) (ha : argsOk i ⟨self :: rest, []⟩)
    (hi : Looks (model prog w) s.heap (isInstance self (.type owner)) true)
    (hc : wpAny (model prog w) A.in1 (b ⟨self :: rest, []⟩) (fun fin s' => ∃ v, fin = .done (.ret v) ∧ Q v s') E s) :
    wpAny (model prog w) A (call (.builtin i) (self :: rest)) Q E s := by
  refine wpAny_call (codeAny_call_builtin hp hb ?_)
  have hc' : wpAny (model prog w) A.in1 (b ⟨self :: rest, []⟩) (fun fin s' => match fin with
      | .done f => (match (Except.ok f : Result) with | .ok (.ret v) => Q v s' | .ok _ => False | .error e => E e s')
      | .again c' => c'.quiet = true ∧ codeAny (model prog w) A c' (fun r s' => match r with | .ok (.ret v) => Q v s' | .ok _ => False | .error e => E e s') s') E s :=
    wpAny_mono hc (fun fin s' h' => by obtain ⟨v, rfl, hv⟩ := h'; exact hv) fun _ _ h' => h'
  rcases hk with hk | hk
  · exact check_meth hk hs hi ha hc'
  · exact check_slot hk hs hi ha hc'

section
variable {prog : Program} {w : World} {A : Around} {E : Value → Shared → Prop} {s : Shared} {h₀ : Heap} {L x d : Addr} {m : Str → Option Value} {led : Led} {vs : List Value} {n : Nat}
open Builtin Builtin.List in
theorem acc_append {v : Value} {Q : Value → Shared → Prop} (F : Fr h₀ L s.heap m) (X₀ : (hd.heap_1 w.params).In h₀) (N : News h₀ L s.heap led) (hm : (x, accO d vs n) ∈ led) (hz : vs.length < 1000)
    (h : ∀ h', Fr h₀ L h' m → News h₀ L h' (upd x (accO d (vs ++ [v]) (n + 1)) led) → Q .none { s with heap := h' }) :
    wpAny (model prog w) A (call (.builtin "list.append") [.ref x, v]) Q E s := by
  have hx := N.get hm
  refine call_on (owner := "list") (n := "append") (self := .ref x) (rest := [v]) (.inl (by decide +kernel)) (by decide +kernel) (by decide +kernel) PySem.F.entry_list_append (PySem.F.args_list_append_2 (.ref x) v) (acc_inst (X₀.keeps F.keep) hx) ?_
  obtain ⟨F', N'⟩ := led_update F N hm (Obj.mapSeq (·.push v)) (o' := accO d (vs ++ [v]) (n + 1)) (by simp [Obj.mapSeq]) rfl
  have := h _ F' N'
  unfold Builtin.«list.append»
  show wpAny _ _ (updateSeq x (·.push v) >>= fun _ => ret .none) _ _ s
  refine wpAny_bind ?_
  refine wpAny_updateSeq (hz := by simp; rw [sizeLine_eq]; omega) hx rfl (wpAny_pure ⟨.none, rfl, this⟩)
end
theorem canon_lga : Manifest.canonical "list.__getattribute__" = "object.__getattribute__" := by decide +kernel
section
variable {prog : Program} {w : World} {A : Around} {E : Value → Shared → Prop} {s : Shared} {x d : Addr} {vs : List Value} {n : Nat} {od : Obj} {name : Str} {pl : Sem Bool} {Q : Value × List Value → Shared → Prop}
/-- the method form on an accumulator, own defs and list's built-ins -/
theorem acc_method {f tf : Value} (X : (hd.heap_1 w.params).In s.heap) (I : InstAt s.heap x (accO d vs n) 101 (some od))
    (hf : findIn (hd.heap_1 w.params) (.ref 101) name = some (some f)) (ht : typeIn (hd.heap_1 w.params) f = some tf) (htf : (tf != .type "function" && tf != .type "method_descriptor" && tf != .type "wrapper_descriptor") = false) (hs : shadowIn (some od) name = some false) (h : Q (f, [.ref x]) s) :
    wpAny (model prog w) A (getMethod (.ref x) name pl) Q E s := by
  unfold getMethod specialOf
  refine wpAny_bind (wpAny_bind (I.type.here ((looks_findIn X (fa_ga w)).here ?_)))
  dsimp only
  rw [canon_lga, if_neg (by decide)]
  refine wpAny_bind (wpAny_bind (I.type.here ((looks_findIn X (fa_g w)).here ?_)))
  refine wpAny_bind (wpAny_bind (I.type.here ((looks_findIn X hf).here (wpAny_bind ((looks_typeIn X ht).here ?_)))))
  rw [htf]
  refine wpAny_bind (wpAny_loadPart I.at_ ?_)
  have hd := I.dict
  obtain ⟨r, a, b⟩ := Option.map_eq_some_iff.mp hs
  refine wpAny_bind (wpAny_bind (wpAny_loadPart hd ?_))
  rw [nsLook_of a]
  refine wpAny_pure ?_
  rw [b]
  exact wpAny_bind (wpAny_rule (wpAny_pure h))
end
theorem entry_lga : entryFor table "list.__getattribute__" = some Builtin.«object.__getattribute__» :=
  entryFor_alias (id' := "object.__getattribute__") (by kernel_rfl) (by first | rfl | decide +kernel | (unfold String.splitOn; simp +decide [String.splitOnAux])) (by decide +kernel) (by kernel_rfl)
theorem args_lga (a b : Value) : argsOk "list.__getattribute__" ⟨[a, b], []⟩ := by unfold argsOk; kernel_rfl
theorem slot_lga : Slot "list" "__getattribute__" "list.__getattribute__" := .of (owner := "list") (n := "__getattribute__") (by rw [typeLookup_type, builtinLookup_eq_fast]; kernel_rfl) (by decide +kernel) (by decide +kernel) (by decide +kernel)
  (by first | exact .inl (by decide +kernel) | exact .inr (by decide +kernel)) (by rw [isSubtype_type]; kernel_rfl)
section
variable {prog : Program} {w : World} {A : Around} {E : Value → Shared → Prop} {s : Shared} {x d : Addr} {vs : List Value} {n : Nat} {od : Obj} {name : Str} {expr : Bool} {Q : Value → Shared → Prop}
theorem acc_get {v : Value} (X : (hd.heap_1 w.params).In s.heap) (I : InstAt s.heap x (accO d vs n) 101 (some od)) (hf : findObj (hd.heap_1 w.params) 101 (some od) name = some (.value v)) (hh : handedIn v = true) (h : Q v { s with toks := s.toks + 1 }) :
    wpAny (model prog w) A (getAttr (.ref x) name expr) Q E s := by
  obtain ⟨hh', g, dr, t, os⟩ := s
  have L0 := I.type (M := model prog w)
  have L1 := looks_findIn (M := model prog w) X (fa_ga w)
  have L2 := looks_findIn (M := model prog w) X (fa_g w)
  have L3 := looks_find (M := model prog w) X I hf
  unfold getAttr getAttrBy
  refine wpAny_bind (wpAny_mkText (wpAny_holding (wpAny_bind (L0.at (wpAny_bind (L1.at ?_))))))
  show wpAny _ _ (getAttrByItsOwn (.ref x) (.str name t) (.ref 101) (.builtin "list.__getattribute__") true expr) _ _ _
  unfold getAttrByItsOwn hookBefore callGetattribute boundAndCalled
  show wpAny _ _ (typeLookup (.ref 101) "__getattr__" >>= _) _ _ _
  refine wpAny_bind (L2.at ?_)
  refine wpAny_bind (wpAny_attempt (wpAny_holding ?_))
  show wpAny _ _ (if (expr && false) = true then _ else _) _ _ _
  rw [Bool.and_false, if_neg Bool.false_ne_true]
  refine wpAny_bind (wpAny_of_eq (slot_lga.bind _) ?_)
  refine wpAny_mono (Q := fun v' s' => v' = v ∧ s' = ⟨hh', g, dr, t + 1, os⟩) (E := fun _ _ => False) ?_ (fun v' s' hv => ?_) fun _ _ z => z.elim
  · refine call_on (owner := "list") (n := "__getattribute__") (self := .ref x) (rest := [.str name t]) (.inr (by decide +kernel)) (by decide +kernel) (by decide +kernel) entry_lga (args_lga (.ref x) (.str name t)) (acc_inst X I.at_) ?_
    unfold Builtin.«object.__getattribute__»
    refine wpAny_bind (wpAny_pure (wpAny_bind (wpAny_pure (wpAny_bind (L0.at (wpAny_bind (L3.at ?_)))))))
    exact wpAny_pure ⟨_, rfl, rfl, rfl⟩
  · obtain ⟨rfl, rfl⟩ := hv
    show wpAny _ _ (handedOut v') _ _ _
    rw [handedOut_of hh]; exact wpAny_pure h
end
end
section
set_option maxHeartbeats 4000000
theorem refuse_list (self : Value) : refuseLoop self "__setattr__" [.type "list", .type "object"] = pure () := by kernel_rfl
theorem fa_sa (w : World) : findIn (hd.heap_1 w.params) (.ref 101) "__setattr__" = some (some (.builtin "object.__setattr__")) := by k_is
theorem sub_object (w : World) : mroIn (hd.heap_1 w.params) 101 (.type "object") = some true := by k_is
theorem fa_sz (w : World) : findIn (hd.heap_1 w.params) (.ref 101) "_initial_size" = some none := by k_is
theorem cls101 (w : World) : ∃ cd, clsIn (hd.heap_1 w.params) 101 = some cd ∧ cd.mro = [.ref 101, .type "list", .type "object"] ∧ cd.hasDict = true ∧ cd.hasDel = false := ⟨_, by k_is, rfl, rfl, rfl⟩
section
variable {prog : Program} {w : World} {A : Around} {E : Value → Shared → Prop} {s : Shared} {h₀ : Heap} {L x d : Addr} {m : Str → Option Value} {led : Led} {vs : List Value} {n : Nat}
theorem acc_set {es es' : List DictEntry} {k k' : Nat} {v : Value} {Q : Unit → Shared → Prop} (F : Fr h₀ L s.heap m) (X₀ : (hd.heap_1 w.params).In h₀) (N : News h₀ L s.heap led) (hm : (x, accO d vs n) ∈ led) (hd : (d, dictOf es k) ∈ led)
    (hl : (getL "_initial_size" es).isSome = true)
    (e : (putL "_initial_size" (PyData.keyHash w.params "_initial_size") (.str "_initial_size" (s.toks + 1)) v es, putN "_initial_size" es k) = (es', k')) (hz : es'.length ≤ 1000)
    (h : ∀ h', Fr h₀ L h' m → News h₀ L h' (upd d (dictOf es' k') led) → Q () { s with heap := h', toks := s.toks + 2 }) :
    wpAny (model prog w) A (setAttr (.ref x) "_initial_size" v) Q E s := by
  have X := X₀.keeps F.keep
  have hx := N.get hm
  have hD := N.get hd
  have I : InstAt s.heap x (accO d vs n) 101 (some (dictOf es k)) := acc_instAt hx hD
  obtain ⟨e1, e2⟩ := Prod.mk.inj e
  obtain ⟨U1, U2⟩ := led_update F N hd (Obj.putName "_initial_size" (PyData.keyHash w.params "_initial_size") (.str "_initial_size" (s.toks + 1)) v) (o' := dictOf es' k') (by rw [putName_dict, e1, e2]) rfl
  have D' := U2.get upd_self
  have fin := h _ U1 U2
  clear h e e1 e2
  obtain ⟨hh, g, dr, t, os⟩ := s
  refine set_plain X I (fa_sa w) ?_
  obtain ⟨cd, hc, hmro, hhd, _⟩ := cls101 w
  have SF := PySem.F.store_object
  have sub : Looks (model prog w) hh (isInstance (.ref x) (.type "object")) true := I.type.andThen (looks_mroIn X (sub_object w))
  refine codeAny_call_builtin SF.slot.plain SF.entry (@check_slot (model prog w) _ _ ⟨hh, g, dr, t + 1, os⟩ "object.__setattr__" "object" "__setattr__" (.ref x) [.str "_initial_size" t, v] [] _ SF.kind SF.split sub (SF.args (.ref x) (.str "_initial_size" t) v) ?_)
  have hmr : Looks (model prog w) hh (mroOf (.ref 101)) cd.mro := (looks_clsIn X hc).andThen .now
  rw [osa_eq, refuse_eq]
  refine wpAny_bind (wpAny_bind (I.type.at (wpAny_bind (hmr.at ?_))))
  rw [hmro, refuseLoop_ref, refuse_list]
  refine wpAny_pure (wpAny_bind (I.type.at (wpAny_bind ((looks_findIn X (fa_sz w)).at (wpAny_bind (wpAny_pure ?_))))))
  refine wpAny_bind (wpAny_pure (wpAny_bind (wpAny_bind (wpAny_loadPart hx (wpAny_bind ((looks_clsIn X hc).at ?_))))))
  rw [hhd]
  refine wpAny_pure (a := some d) (wpAny_bind (wpAny_pure (wpAny_bind ?_)))
  unfold nsSet
  refine wpAny_bind (wpAny_bind (wpAny_askSetting (wpAny_pure (wpAny_bind (wpAny_mkText (wpAny_bind (wpAny_loadPart hD ?_)))))))
  dsimp only
  have c : aRefKeyMayBeTheName "_initial_size" es.toArray = false := by
    rw [aRefKeyMayBeTheName_at]
    unfold getL at hl
    rw [← Array.any_toList, ← Array.any_toList]
    split at hl
    · rename_i en he
      rw [List.any_eq_true.mpr ⟨en, List.mem_of_find?_eq_some he, List.find?_some he⟩]; rfl
    · split at hl
      · cases hl
      · rename_i z; rw [Bool.not_eq_true] at z; rw [z, Bool.and_false]
  rw [c]
  refine wpAny_updatePart hD ?_
  refine wpAny_bind (wpAny_lookBehind D' (pastItsLine_dict (by rw [List.size_toArray, sizeLine_eq]; omega)) ?_)
  exact wpAny_pure fin
end
end
section
set_option maxHeartbeats 4000000
theorem bound_slot {M : Model} {A : Around} {E : Value → Shared → Prop} {s : Shared} {i : String} {self : Value} {rest : List Value} {Q : Unit → Shared → Prop}
    (hk : builtinKind i = some .slot) (ha : argsOk i ⟨self :: rest, []⟩) (q : Q () s) : wpAny M A (checkBoundCall i ⟨self :: rest, []⟩) Q E s := by
  unfold checkBoundCall
  cases hsig : Manifest.signature? i with
  | none => exact wpAny_pure q
  | some sig =>
    simp only [argsOk, hsig] at ha
    have h2 : Bind.checkArgs i sig ⟨self :: rest, []⟩ = pure () := ha
    dsimp only
    simp only [hk]
    rw [if_pos (by decide)]
    rw [h2]; exact wpAny_pure q
theorem cls101q (w : World) : ∃ cd, clsIn (hd.heap_1 w.params) 101 = some cd ∧ cd.qualname = Str.ofString "_Accumulator" := ⟨_, by k_is, rfl⟩
theorem t101 (w : World) : typeIn (hd.heap_1 w.params) (.ref 101) = some (.type "type") := by k_is
theorem pop_kind : builtinKind "list.pop" = some .method := by decide +kernel
theorem pop_name : toString (Str.ofString "_Accumulator").toString ++ toString "." ++ toString (Bind.lastOf "list.pop") = "_Accumulator.pop" := by decide +kernel
theorem pop_check (self : Value) : (match Manifest.signature? "list.pop" with | some sig => Bind.checkArgs "list.pop" { sig with full := "_Accumulator.pop" } ⟨[self], []⟩ | none => pure ()) = pure () := by kernel_rfl
theorem bound_pop {prog : Program} {w : World} {A : Around} {E : Value → Shared → Prop} {s : Shared} {x d : Addr} {vs : List Value} {n : Nat} {Q : Unit → Shared → Prop}
    (X : (hd.heap_1 w.params).In s.heap) (hx : s.heap.get? x = some (accO d vs n)) (q : Q () s) : wpAny (model prog w) A (checkBoundCall "list.pop" ⟨[.ref x], []⟩) Q E s := by
  have hck0 := pop_check (.ref x)
  obtain ⟨cd, hc, hq⟩ := cls101q w
  have L0 := acc_type (M := model prog w) hx
  have L1 : Looks (model prog w) s.heap (isInstance (.ref x) (.type "module")) false := L0.andThen (looks_mroIn X (sub_module w))
  have L2 := looks_typeIn (M := model prog w) X (t101 w)
  have L3 := looks_clsIn (M := model prog w) X hc
  unfold checkBoundCall
  cases hsig : Manifest.signature? "list.pop" with
  | none => exact wpAny_pure q
  | some sig =>
  rw [hsig] at hck0
  have hck : Bind.checkArgs "list.pop" { sig with full := "_Accumulator.pop" } ⟨[.ref x], []⟩ = pure () := hck0
  dsimp only
  simp only [pop_kind]
  rw [if_neg (by decide)]
  refine wpAny_bind (L1.here ?_)
  rw [if_neg (by decide +kernel)]
  unfold isType loadHead
  refine wpAny_bind (wpAny_bind (wpAny_bind (wpAny_loadPart hx (wpAny_pure ?_))))
  refine wpAny_pure (wpAny_bind (L0.here ?_))
  dsimp only
  refine wpAny_bind (L3.here (wpAny_bind (L2.here ?_)))
  rw [if_pos (by decide), hq, pop_name, hck]
  exact wpAny_pure q
end
section
set_option maxHeartbeats 4000000
/-- the dict of an accumulator whose _initial_size is 0 -/
noncomputable abbrev szO (hsh : Int) (t t' : Tok) (k : Nat) : Obj := dictOf [⟨hsh, .str (Str.ofString "_initial_size") t, .int 0 t'⟩] k
section
variable {prog : Program} {w : World} {A : Around} {E : Value → Shared → Prop} {s : Shared} {h₀ : Heap} {L x d : Addr} {m : Str → Option Value} {led : Led} {vs : List Value} {n : Nat} {od : Obj} {name : Str}
theorem accL_method {f tf : Value} {pl : Sem Bool} {Q : Value × List Value → Shared → Prop} (F : Fr h₀ L s.heap m) (X₀ : (hd.heap_1 w.params).In h₀) (N : News h₀ L s.heap led) (hm : (x, accO d vs n) ∈ led) (hdd : (d, od) ∈ led)
    (hf : findIn (hd.heap_1 w.params) (.ref 101) name = some (some f)) (ht : typeIn (hd.heap_1 w.params) f = some tf) (htf : (tf != .type "function" && tf != .type "method_descriptor" && tf != .type "wrapper_descriptor") = false) (hs : shadowIn (some od) name = some false) (h : Q (f, [.ref x]) s) :
    wpAny (model prog w) A (getMethod (.ref x) name pl) Q E s := acc_method (X₀.keeps F.keep) (acc_instAt (N.get hm) (N.get hdd)) hf ht htf hs h
theorem accL_get {v : Value} {expr : Bool} {Q : Value → Shared → Prop} (F : Fr h₀ L s.heap m) (X₀ : (hd.heap_1 w.params).In h₀) (N : News h₀ L s.heap led) (hm : (x, accO d vs n) ∈ led) (hdd : (d, od) ∈ led)
    (hf : findObj (hd.heap_1 w.params) 101 (some od) name = some (.value v)) (hh : handedIn v = true) (h : Q v { s with toks := s.toks + 1 }) : wpAny (model prog w) A (getAttr (.ref x) name expr) Q E s :=
  acc_get (X₀.keeps F.keep) (acc_instAt (N.get hm) (N.get hdd)) hf hh h
theorem sz_find (w : World) (hsh : Int) (t t' : Tok) (k : Nat) : findObj (hd.heap_1 w.params) 101 (some (szO hsh t t' k)) "_initial_size" = some (.value (.int 0 t')) := by kernel_rfl
theorem super_init (w : World) : ks_superIn (hd.heap_1 w.params) 101 101 "__init__" = some (some (.builtin "list.__init__")) := by kernel_rfl
theorem super_len (w : World) : ks_superIn (hd.heap_1 w.params) 101 101 "__len__" = some (some (.builtin "list.__len__")) := by kernel_rfl
theorem super_pop (w : World) : ks_superIn (hd.heap_1 w.params) 101 101 "pop" = some (some (.builtin "list.pop")) := by kernel_rfl
theorem no_third (w : World) : nsIn (hd.heap_1 w.params) cStatics "thirdparty.any" = some none := by k_is
theorem accL_super {so : Addr} {T G W id : String} {b : Builtin} {pl : Sem Bool} {Q : Value × List Value → Shared → Prop} (F : Fr h₀ L s.heap m) (X₀ : (hd.heap_1 w.params).In h₀) (N : News h₀ L s.heap led) (hm : (x, accO d vs n) ∈ led) (hso : (so, ks_superObj 101 x 101) ∈ led)
    (hf : ks_superIn (hd.heap_1 w.params) 101 101 name = some (some (.builtin id))) (hn : (name == ("__class__" : Str)) = false)
    (hT : typeOf (.builtin id) = pure (.type T)) (S : Slot T "__get__" G) (eG : entryFor table G = some b) (aG : argsOk G ⟨[.builtin id, .ref x, .ref 101], []⟩)
    (hrun : ∀ {h : Heap} {A : Around} {E : Value → Shared → Prop} {Q : Fin → Shared → Prop} {g dr t os}, h.get? x = some (accO d vs n) → (∀ n, n = "list" → Looks (model prog w) h (isSubtype (.ref 101) (.type n)) true) → Q (.done (.ret (.ref h.objs.size))) ⟨h.push (bndO W id x), g, dr, t, os⟩ → wpAny (model prog w) A (b ⟨[.builtin id, .ref x, .ref 101], []⟩) Q E ⟨h, g, dr, t, os⟩)
    (h : ∀ q h', Fr h₀ L h' m → News h₀ L h' ((q, bndO W id x) :: led) → Q (.ref q, []) { s with heap := h', toks := s.toks + 1 }) : wpAny (model prog w) A (getMethod (.ref so) name pl) Q E s := by
  have X : (hd.heap_1 w.params).In s.heap := X₀.keeps F.keep
  have hx := N.get hm
  have hs := N.get hso
  obtain ⟨cd, hc, hmro, _, _⟩ := cls101 w
  have hf' : alongIn (hd.heap_1 w.params) name [.type "list", .type "object"] = some (some (.builtin id)) := by
    unfold ks_superIn at hf
    rw [hc] at hf
    rw [← hf, Option.bind_some, hmro]
    rfl
  have hxC : x ≠ 101 := by
    rintro rfl
    obtain ⟨o, ho⟩ : ∃ o, (hd.heap_1 w.params).lookup 101 = some o ∧ o.cls = .type "type" := by
      have e := t101 w
      unfold typeIn at e
      obtain ⟨o, ho, hcc⟩ := Option.map_eq_some_iff.mp e
      exact ⟨o, ho, hcc⟩
    have e1 := X _ _ ho.1
    rw [hx] at e1
    have e2 := congrArg Obj.cls (Option.some.inj e1)
    rw [ho.2] at e2
    cases e2
  have fin := h s.heap.objs.size _ (F.push _) (N.push F (bndO W id x) rfl)
  clear h
  obtain ⟨hh, g, dr, t, os⟩ := s
  refine ls_getMethod (l₀ := [.ref 101, .type "list", .type "object"]) (l := [.type "list", .type "object"]) hx hs (looks_opaque X (no_third w)) ?_ rfl X hf' hxC hn hT S eG aG (fun {A E Q g d t os} hq => hrun hx (fun n hn => ?_) hq) fin
  · rw [← hmro]
    exact (looks_clsIn X hc).andThen .now
  · subst hn
    exact looks_mroIn X (sub_list w)
end
end
section
set_option maxHeartbeats 4000000
theorem kind_linit : builtinKind "list.__init__" = some .slot := by decide +kernel
theorem kind_llen : builtinKind "list.__len__" = some .slot := by decide +kernel
theorem plain_linit : plainId "list.__init__" = true := by decide +kernel
theorem plain_llen : plainId "list.__len__" = true := by decide +kernel
section
variable {prog : Program} {w : World} {A : Around} {E : Value → Shared → Prop} {s : Shared} {h₀ : Heap} {L x d q : Addr} {m : Str → Option Value} {led : Led} {vs : List Value} {n : Nat} {od : Obj} {name : Str}
theorem callWith_bnd0 {M : Model} {env : Env} {pos : Pos} {cls id : String} {Q : Value → Shared → Prop} (N : News h₀ L s.heap led) (hq : (q, bndO cls id x) ∈ led) (hc : (Value.type cls == .type "method") = false) (hc2 : (Value.type cls == .type "builtin_function_or_method" || Value.type cls == .type "method-wrapper") = true)
    (h : wpAny M A (call (.ref q) []) Q E s) : wpAny M A (callWith pos (.ref q) [] (backTo pos (starEach [] env)) []) Q E s := by
  unfold callWith
  refine wpAny_bind (wpAny_holding (evalArgs_nil3 (wpAny_bind (wpAny_standAt ?_))))
  have L1 : Looks M s.heap (keeperOf (.ref q)) .machine := by
    refine (Looks.ld (part := none) (N.get hq)).andThen ?_
    dsimp only
    have hne : (Value.type cls != .type "method") = true := by rw [bne, hc]; rfl
    rw [if_pos hne, if_pos hc2]
    exact .now
  refine wpAny_bind (L1.here ?_)
  have tail : ∀ {t : Sem Value}, wpAny M A t Q E s → wpAny M A (t >>= fun r => holding [r] point >>= fun _ => pure r) Q E s :=
    fun ht => wpAny_bind (wpAny_mono ht (fun r s₂ hr => wpAny_bind (wpAny_holding (wpAny_point (wpAny_pure hr)))) fun _ _ y => y)
  exact tail h
open Builtin Builtin.List in
theorem bndL_init {Q : Value → Shared → Prop} (F : Fr h₀ L s.heap m) (N : News h₀ L s.heap led) (hm : (x, accO d [] n) ∈ led) (hq : (q, bndO "method-wrapper" "list.__init__" x) ∈ led)
    (h : ∀ h', Fr h₀ L h' m → News h₀ L h' (upd x (accO d [] n) led) → Q .none { s with heap := h' }) : wpAny (model prog w) A (call (.ref q) []) Q E s := by
  have hx := N.get hm
  obtain ⟨F', N'⟩ := led_update F N hm (Obj.mapSeq (fun _ => #[])) (o' := accO d [] n) (by simp [Obj.mapSeq]) rfl
  refine bnd_call (id := "list.__init__") (b := Builtin.«list.__init__») (by decide +kernel) (by decide +kernel) (N.get hq) plain_linit PySem.F.entry_list_init (fun {A Q E} q => @bound_slot (model prog w) A E s "list.__init__" (.ref x) [] Q kind_linit (PySem.F.args_list_init_1 (.ref x)) q) ?_
  unfold Builtin.«list.__init__»
  show wpAny _ _ (listItems (.ref x) >>= fun old => updateSeq x (fun _ => #[]) >>= fun _ => letGo old.toList.reverse >>= fun _ => ret .none) _ _ s
  refine wpAny_bind ?_
  unfold listItems
  refine wpAny_bind (wpAny_seqItems hx rfl (wpAny_pure ?_))
  refine wpAny_bind (wpAny_updateSeq hx rfl ?_)
  refine wpAny_bind (wpAny_letGo (wpAny_pure ?_))
  exact ⟨_, rfl, h _ F' N'⟩
open Builtin Builtin.List in
theorem bndL_len {Q : Value → Shared → Prop} (N : News h₀ L s.heap led) (hm : (x, accO d vs n) ∈ led) (hq : (q, bndO "method-wrapper" "list.__len__" x) ∈ led)
    (h : Q (.int vs.length s.toks) { s with toks := s.toks + 1 }) : wpAny (model prog w) A (call (.ref q) []) Q E s := by
  have hx := N.get hm
  refine bnd_call (id := "list.__len__") (b := Builtin.«list.__len__») (by decide +kernel) (by decide +kernel) (N.get hq) plain_llen PySem.F.entry_list_len (fun {A Q E} q => @bound_slot (model prog w) A E s "list.__len__" (.ref x) [] Q kind_llen (PySem.F.args_list_len_1 (.ref x)) q) ?_
  unfold Builtin.«list.__len__»
  show wpAny _ _ (seqSize x >>= fun k => retInt k) _ _ s
  unfold seqSize
  refine wpAny_bind (wpAny_bind (wpAny_loadPart hx (wpAny_pure ?_)))
  refine wpAny_bind (wpAny_mkInt (wpAny_pure ?_))
  refine ⟨_, rfl, ?_⟩
  simpa using h
open Builtin Builtin.List in
theorem bndL_pop {v : Value} {Q : Value → Shared → Prop} (F : Fr h₀ L s.heap m) (X₀ : (hd.heap_1 w.params).In h₀) (N : News h₀ L s.heap led) (hm : (x, accO d (vs ++ [v]) n) ∈ led) (hq : (q, bndO "builtin_function_or_method" "list.pop" x) ∈ led) (hz : vs.length < 1000)
    (h : ∀ h', Fr h₀ L h' m → News h₀ L h' (upd x (accO d vs (n + 1)) led) → Q v { s with heap := h' }) : wpAny (model prog w) A (call (.ref q) []) Q E s := by
  have hx := N.get hm
  refine bnd_call (id := "list.pop") (b := Builtin.«list.pop») (by decide +kernel) (by decide +kernel) (N.get hq) (by decide +kernel) PySem.F.entry_list_pop (bound_pop (X₀.keeps F.keep) hx) ?_
  obtain ⟨F', N'⟩ := led_update F N hm (Obj.mapSeq (·.eraseIdxIfInBounds vs.length)) (o' := accO d vs (n + 1)) (by
    have e : (vs ++ [v]).eraseIdx vs.length = vs := by rw [List.eraseIdx_append_of_length_le (Nat.le_refl _)]; simp
    simp [Obj.mapSeq, e]) rfl
  have fin := h _ F' N'
  have e1 : ((vs ++ [v]).toArray.isEmpty) = false := by simp
  have e2 : ((seqIndex? (-1) (vs ++ [v]).toArray.size).bind fun k => Option.map (fun x => (k, x)) (vs ++ [v]).toArray[k]?) = some (vs.length, v) := by
    have : seqIndex? (-1) (vs ++ [v]).toArray.size = some vs.length := by
      unfold seqIndex?
      simp
      omega
    rw [this]
    simp
  unfold Builtin.«list.pop»
  show wpAny _ _ (listItems (.ref x) >>= fun xs => if xs.isEmpty = true then _ else (match (seqIndex? (-1) xs.size).bind fun k => Option.map (fun x => (k, x)) xs[k]? with
                | some (k, y) => do
                  updateSeq x fun x => x.eraseIdxIfInBounds k
                  ret y
                | none => do
                  rule "list.pop.out-of-range"
                  raiseErrorWords "IndexError" "pop index out of range")) _ _ s
  refine wpAny_bind ?_
  unfold listItems
  refine wpAny_bind (wpAny_seqItems hx rfl (wpAny_pure ?_))
  rw [e1, if_neg Bool.false_ne_true, e2]
  refine wpAny_bind (wpAny_updateSeq (hz := by simp; rw [sizeLine_eq]; omega) (_hz' := by
    have e : (vs ++ [v]).eraseIdx vs.length = vs := by rw [List.eraseIdx_append_of_length_le (Nat.le_refl _)]; simp
    simp [e]; rw [sizeLine_eq]; omega) hx rfl ?_)
  refine wpAny_pure ?_
  exact ⟨_, rfl, fin⟩
end
end
local macro_rules | `(tactic| walk_at "ks") => `(tactic| first
  | (ks_step "execs cons"; refine ks_wpAt_execs_cons ?_)
  | (ks_step "exec Expr"; refine ks_wpAt_Expr_any ?_)
  | (ks_step "exec Return"; refine ks_wpAt_Return_some ?_)
  | (ks_step "exec If"; refine ks_wpAt_If ?_)
  | (ks_step "eval Call"; refine ks_wpAt_MethodCall ?_)
  | (ks_step "attributeBase Call"; k_here; k_dflt (refine ks_node (by k_asm) (by k_asm) (by k_asm) (by k_asm) (by k_is) (by rfl) (by rfl) (by exact acc_instAt (News.get (by k_asm) (by k_mem)) (News.get (by k_asm) (by k_mem))) (by k_is) (by rfl) (by first | rfl | decide +kernel) (by k_is) (by k_is) (by k_is) (by k_is) (by decide) (by rfl) (by rfl) (by rfl) (by rfl) (by decide +kernel) (by first | boot_by_name | rfl | kernel_rfl) ?_; intro so' h' F' N' l1)))
theorem off_A8 : True := by
  w_top off
  trivial
section
set_option maxHeartbeats 1000000
local macro_rules | `(tactic| walk_at "getMethod ref") => `(tactic| (k_here; k_dflt (first
  | (refine' accL_method ?F ?X ?N ?m ?d ?e1 ?e2 ?e3 ?e4 ?_; (case F => k_asm); (case X => k_asm); (case N => k_asm); (case m => k_mem); (case d => k_mem); (case e1 => k_is); (case e2 => k_is); (case e3 => decide +kernel); (case e4 => rfl); k_whole)
  | (refine' accL_super ?F ?X ?N ?m ?so (super_init _) (by decide) t_init slot_wd_get entry_wd_get (args_wd _ _ _) (fun hx hs hq => wd_run hx hs (.inl rfl) hq) ?_; (case F => k_asm); (case X => k_asm); (case N => k_asm); (case m => k_mem); (case so => k_mem); k_whole; intro q' h' F' N'))))
theorem new_acc2 (w : World) (led : Led) : 
  ∀ (mean : ExcName → Option Value) (mg mb : Str → Option Value) (dp un : Nat) (gd : Option (List Code)) (cn : Str) (cs : Scope) (a : Addr) (ccd : Value) (cl : List (Str × Addr)) (outer : List Env) (A₀ : Around) (base h₀ : Heap) (L : Addr) (m : Str → Option Value) (s : Shared) (Q E : Value → Shared → Prop),
    Below A₀ base outer h₀ → Fr h₀ L s.heap m → (hd.heap_1 w.params).In h₀ → News h₀ L s.heap led → TT mean mg mb h₀ → cs.kind = .function → dp + 5 < recursionLimit → un + 20 < cLine →
    (∀ x dx h' tk' hsh t t', (∀ p ∈ led, p.1 < x ∧ p.1 < dx) → Fr h₀ L h' m → News h₀ L h' ((x, accO dx [] 0) :: (dx, szO hsh t t' 1) :: led) → Q (.ref x) { s with heap := h', toks := tk' }) →
    wpAny (model PR w) (ktrTop dp un gd cn cs L a ccd cl outer) (call (.ref 101) []) Q E s := by
  intro mean mg mb dp un gd cn cs a ccd cl outer A₀ base h₀ L m s Q E B F X N T hk hdp hu ret
  refine call_acc F X N (lmakes101 w) (find_init w) (by k_is) ?_
  intro x' d' h' F' N' la lb
  k_dflt (refine' ks_code_super ?k1 ?k2 ?k3 ?k4 ?k5 ?kA ?kF ?kK ?k6 ?k7 ?k8 ?k9 ?kB ?_ ?c1 ?c2 ?c3 ?c4; (case kA => exact rfl); (case kF => exact rfl); (case kK => assumption); (case k1 => k_asm); (case k2 => k_asm); (case k3 => k_asm); (case k4 => k_asm); (case k5 => k_asm); (case k6 => k_is); (case k7 => k_is); (case k8 => ktr_room); (case k9 => exact binds_K (by k_in) rfl (by k_is) rfl rfl rfl); (case kB => exact locs rfl); (case c1 => decide); (case c2 => exact rfl); (case c3 => exact rfl); (case c4 => exact rfl); intro g' L' h' FG' F' N' B' X' T' l1; (try dsimp only))
  iterate 5 walk1
  have hne : d' ≠ x' := Nat.ne_of_lt lb
  refine' acc_set ?F ?X ?N ?m ?d ?k10 ?k11 ?k13 ?_
  case F => k_asm
  case X => k_asm
  case N => k_asm
  case m => k_mem
  case d => k_mem
  case k10 => k_get
  case k11 => k_put
  case k13 => exact Nat.le_of_ble_eq_true rfl
  intro h5 F5 N5
  replace N5 := News.sub N5 (led' := (x', accO d' [] 0) :: (d', szO (PyData.keyHash w.params "_initial_size") _ _ 1) :: led) (by
    intro p hp
    rcases List.mem_cons.mp hp with rfl | hp
    · exact upd_other (by k_mem) (Ne.symm hne)
    rcases List.mem_cons.mp hp with rfl | hp
    · exact upd_self
    · exact upd_other (List.mem_cons_of_mem _ (List.mem_cons_of_mem _ hp)) (Nat.ne_of_lt (la p hp)))
  (try dsimp only)
  iterate 4 (walk_at "ks")
  walk1
  refine' callWith_bnd0 (cls := "method-wrapper") ?N ?q (by decide +kernel) (by decide +kernel) ?_
  case N => k_asm
  case q => k_mem
  refine' bndL_init ?F ?N ?m ?q ?_
  case F => k_asm
  case N => k_asm
  case m => k_mem
  case q => k_mem
  intro h7 F7 N7
  replace N7 := News.sub N7 (led' := (x', accO d' [] 0) :: (d', szO (PyData.keyHash w.params "_initial_size") _ _ 1) :: led) (by
    intro p hp
    rcases List.mem_cons.mp hp with rfl | hp
    · exact upd_self
    rcases List.mem_cons.mp hp with rfl | hp
    · exact upd_other (by k_mem) hne
    · exact upd_other (List.mem_cons_of_mem _ (List.mem_cons_of_mem _ (List.mem_cons_of_mem _ (List.mem_cons_of_mem _ hp)))) (Nat.ne_of_lt (Nat.lt_trans (la p hp) lb)))
  iterate 3 (first | walk1 | (dsimp only; walk1))
  k_dflt (refine' leaveK_ ?k1 ?k2 ?_)
  case k1 => k_asm
  case k2 => k_asm
  intro kF kN
  exact ⟨rfl, ret _ _ _ _ _ _ _ (fun p hp => ⟨Nat.lt_trans (la p hp) lb, la p hp⟩) kF kN⟩
end
section
set_option maxHeartbeats 1000000
/-- a sign's text -/
noncomputable abbrev sg (c : Nat) : Str := ⟨#[c]⟩
noncomputable abbrev tupO (vs : List Value) (n : Nat) : Obj := { cls := .type "tuple", data := .seq vs.toArray n }
noncomputable def PieceIs (led : Led) (v : Value) (c : Nat) : Prop := ∃ a t1 t2 n, v = .ref a ∧ (a, tupO [.str (Str.ofString "") t1, .str (sg c) t2] n) ∈ led
noncomputable def Pieces (led : Led) : List Value → List Nat → Prop
  | [], [] => True
  | v :: vs, c :: cs => PieceIs led v c ∧ Pieces led vs cs
  | _, _ => False
theorem PieceIs.mono {led led' : Led} {v : Value} {c : Nat} (h : PieceIs led v c) (hs : ∀ a t1 t2 n, (a, tupO [.str (Str.ofString "") t1, .str (sg c) t2] n) ∈ led → (a, tupO [.str (Str.ofString "") t1, .str (sg c) t2] n) ∈ led') : PieceIs led' v c := by
  obtain ⟨a, t1, t2, n, e, hm⟩ := h
  exact ⟨a, t1, t2, n, e, hs _ _ _ _ hm⟩
theorem Pieces.mono {led led' : Led} : ∀ {vs : List Value} {cs : List Nat}, Pieces led vs cs → (∀ a vs n, (a, tupO vs n) ∈ led → (a, tupO vs n) ∈ led') → Pieces led' vs cs
  | [], [], _, _ => trivial
  | _ :: _, _ :: _, ⟨h1, h2⟩, hs => ⟨h1.mono fun _ _ _ _ => hs _ _ _, h2.mono hs⟩
  | [], _ :: _, h, _ => h.elim
  | _ :: _, [], h, _ => h.elim
theorem Pieces.length {led : Led} : ∀ {vs : List Value} {cs : List Nat}, Pieces led vs cs → vs.length = cs.length
  | [], [], _ => rfl
  | _ :: _, _ :: _, ⟨_, h2⟩ => by simp [h2.length]
  | [], _ :: _, h => h.elim
  | _ :: _, [], h => h.elim
theorem Pieces.append {led : Led} : ∀ {vs vs' : List Value} {cs cs' : List Nat}, Pieces led vs cs → Pieces led vs' cs' → Pieces led (vs ++ vs') (cs ++ cs')
  | [], _, [], _, _, h => h
  | _ :: _, _, _ :: _, _, ⟨h1, h2⟩, h => ⟨h1, h2.append h⟩
  | [], _, _ :: _, _, h, _ => h.elim
  | _ :: _, _, [], _, h, _ => h.elim
theorem Pieces.take {led : Led} : ∀ {vs : List Value} {cs : List Nat} (k : Nat), Pieces led vs cs → Pieces led (vs.take k) (cs.take k)
  | [], [], k, _ => by simp [Pieces]
  | _ :: _, _ :: _, 0, _ => trivial
  | _ :: _, _ :: _, k + 1, ⟨h1, h2⟩ => ⟨h1, h2.take k⟩
  | [], _ :: _, _, h => h.elim
  | _ :: _, [], _, h => h.elim
theorem Pieces.drop {led : Led} : ∀ {vs : List Value} {cs : List Nat} (k : Nat), Pieces led vs cs → Pieces led (vs.drop k) (cs.drop k)
  | [], [], k, _ => by simp [Pieces]
  | _ :: _, _ :: _, 0, h => h
  | _ :: _, _ :: _, k + 1, ⟨_, h2⟩ => h2.drop k
  | [], _ :: _, _, h => h.elim
  | _ :: _, [], _, h => h.elim
theorem Pieces.get {led : Led} : ∀ {vs : List Value} {cs : List Nat} {i : Nat} {v : Value}, Pieces led vs cs → vs[i]? = some v → ∃ c, cs[i]? = some c ∧ PieceIs led v c
  | _ :: _, c :: _, 0, _, ⟨h1, _⟩, e => by cases e; exact ⟨c, rfl, h1⟩
  | _ :: _, _ :: _, i + 1, _, ⟨_, h2⟩, e => by simpa using h2.get (i := i) (by simpa using e)
  | [], [], _, _, _, e => by simp at e
  | [], _ :: _, _, _, h, _ => h.elim
  | _ :: _, [], _, _, h, _ => h.elim
/-- an accumulator in the ledger: its signs -/
structure AccAt (led : Led) (r d : Addr) (cs : List Nat) : Prop where
  out : ∃ vs n hsh t t' k, (r, accO d vs n) ∈ led ∧ (d, szO hsh t t' k) ∈ led ∧ Pieces led vs cs
theorem AccAt.mono {led led' : Led} {r d : Addr} {cs : List Nat} (h : AccAt led r d cs) (hs : ∀ p ∈ led, p ∈ led') : AccAt led' r d cs := by
  obtain ⟨vs, n, hsh, t, t', k, h1, h2, h3⟩ := h.out
  exact ⟨vs, n, hsh, t, t', k, hs _ h1, hs _ h2, h3.mono fun _ _ _ => hs _⟩
/-- what holds of a ledger behind a change at one object -/
noncomputable def Keeps1 (r : Addr) (led led' : Led) : Prop := ∀ p ∈ led, p.1 ≠ r → p ∈ led'
theorem Keeps1.trans {r : Addr} {a b c : Led} (h : Keeps1 r a b) (h' : Keeps1 r b c) : Keeps1 r a c := fun p hp hne => h' p (h p hp hne) hne
theorem pieces_upd {h₀ h : Heap} {L r : Addr} {led : Led} {o o' : Obj} {vs : List Value} {cs : List Nat} (N : News h₀ L h led) (hr : (r, o) ∈ led) (hc : o.cls = .ref 101) (P : Pieces led vs cs) : Pieces (upd r o' led) vs cs :=
  P.mono fun a vs n hm => upd_other hm (News.ne N hm hr (by rw [hc]; exact fun e => nomatch e))

theorem acc_upd {h₀ h : Heap} {L r d : Addr} {led : Led} {vs vs' : List Value} {n n' k : Nat} {hsh : Int} {t t' : Tok} {cs' : List Nat} (N : News h₀ L h led) (hm : (r, accO d vs n) ∈ led) (hdd : (d, szO hsh t t' k) ∈ led) (P : Pieces led vs' cs') :
    AccAt (upd r (accO d vs' n') led) r d cs' :=
  ⟨⟨vs', n', hsh, t, t', k, upd_self, upd_other hdd (News.ne N hdd hm (fun e => nomatch e)), pieces_upd N hm rfl P⟩⟩
theorem keeps_upd {r : Addr} {o : Obj} {led : Led} : Keeps1 r led (upd r o led) := fun _ hp hne => upd_other hp hne
end
local macro_rules | `(tactic| walk_at "getMethod ref") => `(tactic| (k_here; k_dflt (refine' accL_method ?F ?X ?N ?m ?d ?e1 ?e2 ?e3 ?e4 ?_; (case F => k_asm); (case X => k_asm); (case N => k_asm); (case m => k_mem); (case d => k_mem); (case e1 => k_is); (case e2 => k_is); (case e3 => decide +kernel); (case e4 => rfl); k_whole)))
local macro_rules | `(tactic| walk_at "call builtin:list.append") => `(tactic| (k_here; k_dflt (refine' acc_append ?F ?X ?N ?m ?z ?_; (case F => k_asm); (case X => k_asm); (case N => k_asm); (case m => k_mem); (case z => assumption); k_whole); intro h' F' N'))
local macro_rules | `(tactic| walk_at "my steps") => `(tactic| repeat' (first | (walk_at "my cut") | (k_unfold; (try dsimp only)) | walk1 | (dsimp only; walk1)))
local macro_rules | `(tactic| k_mem) => `(tactic| first | with_reducible assumption | with_reducible exact List.mem_cons_self | (with_reducible refine' List.mem_cons_of_mem _ ?_; k_mem))
theorem off_A9 : True := by
  w_top off
  trivial
section
set_option maxHeartbeats 1000000
local macro_rules | `(tactic| walk_at "my enter") => `(tactic| (refine wpAny_call ?_; k_dflt ktr_enter))
theorem push_spec {w : World} {led : Led} {r d : Addr} {cs : List Nat} {c : Nat} {t1 t2 : Tok} (H : AccAt led r d cs) (hl : cs.length < 900) :
    Spec w 45 5 20 [.ref r, .str (Str.ofString "") t1, .str (sg c) t2] led (fun v led' => v = .none ∧ AccAt led' r d (cs ++ [c]) ∧ Keeps1 r led led') := by
  intro mean mg mb dp un gd cn cs' a ccd cl outer A₀ base h₀ L m s Q E B F X N T hk hdp hu ret
  obtain ⟨vs, n, hsh, t, t', k, hm, hdd, P⟩ := H.out
  have hlen : vs.length < 1000 := by rw [P.length]; omega
  walk_at "my enter"
  walk_at "my steps"
  rename Fr h₀ L _ _ => kF
  rename News h₀ L _ _ => kN
  rename News _ _ _ (_ :: led) => N1
  refine ret _ _ _ _ kF kN ⟨rfl, acc_upd N1 (by k_mem) (by k_mem) ?_, Keeps1.trans (fun p hp _ => List.mem_cons_of_mem _ hp) keeps_upd⟩
  exact (P.mono fun _ _ _ hp => List.mem_cons_of_mem _ hp).append ⟨⟨_, t1, t2, 0, rfl, List.mem_cons_self⟩, trivial⟩
end
section
set_option maxHeartbeats 1000000
theorem sub_deque (w : World) : mroIn (hd.heap_1 w.params) 101 (.type "collections.deque") = some false := by k_is
theorem fa_gi (w : World) : findIn (hd.heap_1 w.params) (.ref 101) "__getitem__" = some (some (.builtin "list.__getitem__")) := by k_is
theorem fa_si (w : World) : findIn (hd.heap_1 w.params) (.ref 101) "__setitem__" = some (some (.builtin "list.__setitem__")) := by k_is
theorem plain_lgi : plainId "list.__getitem__" = true := by decide +kernel
theorem plain_lsi : plainId "list.__setitem__" = true := by decide +kernel
theorem kind_lgi : builtinKind "list.__getitem__" = some .method := by decide +kernel
theorem kind_lsi : builtinKind "list.__setitem__" = some .slot := by decide +kernel
theorem split_lgi : splitId "list.__getitem__" = some ("list", "__getitem__") := by decide +kernel
theorem split_lsi : splitId "list.__setitem__" = some ("list", "__setitem__") := by decide +kernel
section
variable {prog : Program} {w : World} {A : Around} {E : Value → Shared → Prop} {s : Shared} {h₀ : Heap} {L x d : Addr} {m : Str → Option Value} {led : Led} {vs : List Value} {n : Nat}
theorem acc_seqKey {M : Model} {k : Value} {name : Str} {Q : Value → Shared → Prop} (X : (hd.heap_1 w.params).In s.heap) (hx : s.heap.get? x = some (accO d vs n)) (h : Q k s) : wpAny M A (sequenceKey (.ref x) k name) Q E s := by
  unfold sequenceKey
  refine wpAny_bind ((acc_type hx).here ?_)
  dsimp only
  refine wpAny_bind ?_
  refine wpAny_bind ((looks_mroIn X (sub_deque w)).here ?_)
  refine wpAny_pure ?_
  exact wpAny_pure h
theorem acc_special {M : Model} {name : Str} {id : String} {args : List Value} {Q : Option Value → Shared → Prop} (X : (hd.heap_1 w.params).In s.heap) (hx : s.heap.get? x = some (accO d vs n)) (S : Slot "list" name id)
    (hf : findIn (hd.heap_1 w.params) (.ref 101) name = some (some (.builtin id))) (h : wpAny M A (call (.builtin id) (.ref x :: args)) (fun v => Q (some v)) E s) : wpAny M A (callSpecial? (.ref x) name args) Q E s := by
  unfold callSpecial? specialOf
  refine wpAny_bind (wpAny_bind ((acc_type hx).here ((looks_findIn X hf).here ?_)))
  dsimp only
  refine wpAny_holding (wpAny_bind ?_)
  rw [S.bind]
  refine wpAny_pure ?_
  exact wpAny_bind (wpAny_mono h (fun v s' hv => wpAny_pure hv) fun _ _ e => e)
theorem acc_slice {value slice : Expr} {vl vu : Value} {lo hi : Option Int} {Q : Value → Shared → Prop} (F : Fr h₀ L s.heap m) (X₀ : (hd.heap_1 w.params).In h₀) (N : News h₀ L s.heap led) (hm : (x, accO d vs n) ∈ led) (pl : IsPart vl lo) (pu : IsPart vu hi)
    (h : ∀ D h', Fr h₀ L h' m → News h₀ L h' ((D, listOf (kms_pick vs lo hi).toArray 0) :: led) → Q (.ref D) { s with heap := h' })
    (hs : subscripted slice false (.ref x) (.ref s.heap.objs.size) = operate [.ref s.heap.objs.size, .ref x] (getItem (.ref x) (.ref s.heap.objs.size)))
    (ht : ∀ r, letTemporaryGo value (.ref x) r = pure ()) (hsz : vs.length < 1000) :
    wpAny (model prog w) A (subscriptTail value slice (.ref x) (.ref s.heap.objs.size)) Q E { s with heap := s.heap.push { cls := .type "slice", data := .fields #[vl, vu, .none] } } := by
  have X : (hd.heap_1 w.params).In (s.heap.push { cls := .type "slice", data := .fields #[vl, vu, .none] }) := fun a o e => Heap.get?_push_of_some _ (X₀.keeps F.keep a o e)
  have hx0 := N.get hm
  have hx : (s.heap.push { cls := .type "slice", data := .fields #[vl, vu, .none] }).get? x = some (accO d vs n) := Heap.get?_push_of_some _ hx0
  have N1 := News.push (F.push { cls := .type "slice", data := .fields #[vl, vu, .none] }) (N.grown fun _ _ e => Heap.get?_push_of_some _ e) { cls := .type "list", data := .seq (slicePick vs.toArray lo hi none) }
  rw [Heap.size_push] at N1
  have epk : slicePick vs.toArray lo hi none = (kms_pick vs lo hi).toArray := by rw [kms_pick_eq]
  have fin := h (s.heap.objs.size + 1) ((s.heap.push { cls := .type "slice", data := .fields #[vl, vu, .none] }).push { cls := .type "list", data := .seq (slicePick vs.toArray lo hi none) }) ((F.push _).push _) (by
    intro p hp
    rcases List.mem_cons.mp hp with rfl | hp
    · have q := N1 _ (List.mem_cons_self)
      refine ⟨?_, q.2⟩
      rw [q.1, epk]
    · exact N1 p (List.mem_cons_of_mem _ hp))
  have hsl : (s.heap.push { cls := .type "slice", data := .fields #[vl, vu, .none] }).IsSliceOf s.heap.objs.size vl vu .none := Heap.IsSliceOf.new ..
  clear h N1
  have hh0 : ∀ k, (s.heap.push k).objs.size = s.heap.objs.size + 1 := fun k => Heap.size_push _ _
  unfold subscriptTail getitemInPython specialOf
  refine wpAny_bind (wpAny_bind (wpAny_bind ((acc_type (M := model prog w) hx).at ((looks_findIn (M := model prog w) X (fa_gi w)).at (wpAny_pure ?_)))))
  rw [hs]
  refine wpAny_bind (wpAny_operateT ?_)
  unfold getItem
  refine wpAny_holding (wpAny_bind (acc_seqKey (s := { s with heap := _ }) X hx (wpAny_bind (acc_special (s := { s with heap := _ }) X hx slot_list_getitem (fa_gi w) ?_))))
  refine call_on (s := { s with heap := _ }) (owner := "list") (n := "__getitem__") (self := .ref x) (rest := [.ref s.heap.objs.size]) (.inl kind_lgi) split_lgi plain_lgi entry_list_getitem (args_list_getitem (.ref x) (.ref s.heap.objs.size)) (acc_inst X hx) ?_
  obtain ⟨os, hos, hcs, hds⟩ := id hsl
  have hTs : (⟨s.heap.push { cls := .type "slice", data := .fields #[vl, vu, .none] }, s.gens, s.drawn, s.toks, s.os⟩ : Shared).TypeIs (.ref s.heap.objs.size) "slice" := ⟨os, hos, hcs⟩
  show wpAny _ _ (Builtin.List.listSubscript? (.ref s.heap.objs.size) >>= _) _ _ _
  refine wpAny_bind ?_
  unfold Builtin.List.listSubscript?
  refine wpAny_bind (wpAny_specialOf hTs slice_no_index ?_)
  simp only [Option.isNone_none, if_true]
  refine wpAny_pure ?_
  show wpAny _ _ (typeOf (.ref s.heap.objs.size) >>= _) _ _ _
  refine wpAny_bind (wpAny_typeOf hTs ?_)
  rw [if_neg (by decide)]
  rw [listSliceParts_eq]
  refine wpAny_bind (wpAny_bind (wpAny_field hos hds (x := .none) rfl (wpAny_bind (wpAny_listPart .none ?_))))
  rw [if_neg (by exact Bool.false_ne_true)]
  refine wpAny_bind (wpAny_field hos hds (x := vl) rfl (wpAny_bind (wpAny_listPart pl ?_)))
  refine wpAny_bind (wpAny_field hos hds (x := vu) rfl (wpAny_bind (wpAny_listPart pu (wpAny_pure ?_))))
  refine wpAny_bind (m := Builtin.List.listItems (.ref x)) ?_
  unfold Builtin.List.listItems
  refine wpAny_bind (wpAny_seqItems hx rfl (wpAny_pure ?_))
  refine wpAny_bind (wpAny_of_eq (sliceIndices_raw lo hi none _ (by simp)) ?_)
  refine wpAny_bind (wpAny_newObj_type ?_ (Nat.le_trans (slicePick_size_le vs.toArray lo hi none) (by simp; rw [sizeLine_eq]; omega)))
  refine wpAny_pure ?_
  refine ⟨_, rfl, ?_⟩
  refine wpAny_pure ?_
  refine wpAny_bind (wpAny_of_eq (ht _) (wpAny_pure ?_))
  show Q (.ref (s.heap.push _).objs.size) _
  rw [Heap.size_push]
  exact fin
theorem kms_lo_le (lo : Option Int) (n : Nat) : kms_lo lo n ≤ n := by
  unfold kms_lo
  split
  · omega
  · split <;> omega
theorem kms_hi_le (hi : Option Int) (n : Nat) : kms_hi hi n ≤ n := by
  unfold kms_hi
  split
  · omega
  · split <;> omega
open Builtin.List in
theorem acc_setslice {vl vu : Value} {lo hi : Option Int} {nv : Addr} {ws : List Value} {k : Nat} {Q : Unit → Shared → Prop} (F : Fr h₀ L s.heap m) (X₀ : (hd.heap_1 w.params).In h₀) (N : News h₀ L s.heap led) (hm : (x, accO d vs n) ∈ led) (hn : (nv, listOf ws.toArray k) ∈ led) (pl : IsPart vl lo) (pu : IsPart vu hi)
    (h : ∀ h' n', Fr h₀ L h' m → News h₀ L h' (upd x (accO d (vs.take (kms_lo lo vs.length) ++ ws ++ vs.drop (max (kms_lo lo vs.length) (kms_hi hi vs.length))) n') led) → Q () { s with heap := h' })
    (hsz : vs.length < 1000) (hsw : ws.length < 1000) :
    wpAny (model prog w) A (setItem (.ref x) (.ref s.heap.objs.size) (.ref nv)) Q E { s with heap := s.heap.push { cls := .type "slice", data := .fields #[vl, vu, .none] } } := by
  have X : (hd.heap_1 w.params).In (s.heap.push { cls := .type "slice", data := .fields #[vl, vu, .none] }) := fun a o e => Heap.get?_push_of_some _ (X₀.keeps F.keep a o e)
  have hne : x ≠ nv := News.ne N hm hn (fun e => nomatch e)
  have hx0 := N.get hm
  have hx : (s.heap.push { cls := .type "slice", data := .fields #[vl, vu, .none] }).get? x = some (accO d vs n) := Heap.get?_push_of_some _ hx0
  have hv : (s.heap.push { cls := .type "slice", data := .fields #[vl, vu, .none] }).get? nv = some (listOf ws.toArray k) := Heap.get?_push_of_some _ (N.get hn)
  have ha := kms_lo_le lo vs.length
  have hb := kms_hi_le hi vs.length
  have hsl : (s.heap.push { cls := .type "slice", data := .fields #[vl, vu, .none] }).IsSliceOf s.heap.objs.size vl vu .none := Heap.IsSliceOf.new ..
  have F1 : Fr h₀ L (s.heap.push { cls := .type "slice", data := .fields #[vl, vu, .none] }) m := F.push _
  have N1 : News h₀ L (s.heap.push { cls := .type "slice", data := .fields #[vl, vu, .none] }) led := N.grown fun _ _ e => Heap.get?_push_of_some _ e
  generalize haa : kms_lo lo vs.length = a at *
  generalize hbb : kms_hi hi vs.length = b at *
  have ea : (vs.toArray.extract 0 a ++ ws.toArray ++ vs.toArray.extract (max a b) vs.toArray.size) = (vs.take a ++ ws ++ vs.drop (max a b)).toArray := by
    have e2 : (vs.drop (max a b)).take (vs.length - max a b) = vs.drop (max a b) := List.take_of_length_le (by simp)
    simp [List.extract_eq_take_drop, e2]
  have hn' : Obj.mapSeq (fun xs => xs.extract 0 a ++ ws.toArray ++ xs.extract (max a b) xs.size) (accO d vs n) = accO d (vs.take a ++ ws ++ vs.drop (max a b)) (if (vs.take a ++ ws ++ vs.drop (max a b)).toArray.size == vs.toArray.size then n else n + 1) := by
    show (⟨.ref 101, some d, .seq (vs.toArray.extract 0 a ++ ws.toArray ++ vs.toArray.extract (max a b) vs.toArray.size) (if (vs.toArray.extract 0 a ++ ws.toArray ++ vs.toArray.extract (max a b) vs.toArray.size).size == vs.toArray.size then n else n + 1), #[]⟩ : Obj) = _
    rw [ea]
  obtain ⟨F', N'⟩ := led_update F1 N1 hm (Obj.mapSeq (fun xs => xs.extract 0 a ++ ws.toArray ++ xs.extract (max a b) xs.size)) hn' rfl
  have fin := h _ _ F' N'
  clear h F' N'
  unfold setItem
  refine wpAny_holding (wpAny_bind (acc_seqKey (s := { s with heap := _ }) X hx (wpAny_bind (acc_special (s := { s with heap := _ }) X hx slot_list_setitem (fa_si w) ?_))))
  refine call_on (s := { s with heap := _ }) (owner := "list") (n := "__setitem__") (self := .ref x) (rest := [.ref s.heap.objs.size, .ref nv]) (.inr kind_lsi) split_lsi plain_lsi PySem.F.entry_list_setitem (PySem.F.args_list_setitem_3 (.ref x) (.ref s.heap.objs.size) (.ref nv)) (acc_inst X hx) ?_
  obtain ⟨os, hos, hcs, hds⟩ := id hsl
  have hTs : (⟨s.heap.push { cls := .type "slice", data := .fields #[vl, vu, .none] }, s.gens, s.drawn, s.toks, s.os⟩ : Shared).TypeIs (.ref s.heap.objs.size) "slice" := ⟨os, hos, hcs⟩
  have hTv : (⟨s.heap.push { cls := .type "slice", data := .fields #[vl, vu, .none] }, s.gens, s.drawn, s.toks, s.os⟩ : Shared).TypeIs (.ref nv) "list" := ⟨_, hv, rfl⟩
  show wpAny _ _ (Builtin.List.listSubscript? (.ref s.heap.objs.size) >>= _) _ _ _
  refine wpAny_bind ?_
  unfold Builtin.List.listSubscript?
  refine wpAny_bind (wpAny_specialOf hTs slice_no_index ?_)
  simp only [Option.isNone_none, if_true]
  refine wpAny_pure ?_
  show wpAny _ _ (typeOf (.ref s.heap.objs.size) >>= _) _ _ _
  refine wpAny_bind (wpAny_typeOf hTs ?_)
  rw [if_neg (by decide)]
  rw [listSliceParts_eq]
  refine wpAny_bind (wpAny_bind (wpAny_field hos hds (x := .none) rfl (wpAny_bind (wpAny_listPart .none ?_))))
  rw [if_neg (by exact Bool.false_ne_true)]
  refine wpAny_bind (wpAny_field hos hds (x := vl) rfl (wpAny_bind (wpAny_listPart pl ?_)))
  refine wpAny_bind (wpAny_field hos hds (x := vu) rfl (wpAny_bind (wpAny_listPart pu (wpAny_pure ?_))))
  dsimp only
  have hsame : listSameRef (.ref x) (.ref nv) = false := by simp [listSameRef, hne]
  rw [hsame, if_neg Bool.false_ne_true]
  unfold listAllItems
  refine wpAny_bind (wpAny_bind (wpAny_typeOf hTv ?_))
  rw [if_pos (by decide)]
  unfold listItems
  refine wpAny_bind (wpAny_seqItems hv rfl (wpAny_pure ?_))
  refine wpAny_bind (wpAny_bind (wpAny_seqItems hx rfl (wpAny_pure ?_)))
  refine wpAny_bind (wpAny_of_eq (sliceIndices_raw lo hi none _ (by simp)) ?_)
  have eb : sliceBounds lo hi none vs.toArray.size = ((a : Int), (b : Int), 1) := by
    rw [List.size_toArray, kms_bounds, haa, hbb]
  have em : (max (a : Int) (b : Int)).toNat = max a b := by omega
  rw [eb]
  dsimp only
  rw [if_pos (by decide)]
  refine wpAny_bind (wpAny_rule ?_)
  have htl : listTooLong (vs.toArray.size + ws.toArray.size) = false := by
    unfold listTooLong
    rw [sizeLine_eq]
    simp
    omega
  rw [htl, if_neg Bool.false_ne_true]
  show wpAny _ _ (updateSeq x (fun xs => xs.extract 0 (a : Int).toNat ++ ws.toArray ++ xs.extract (max (a : Int) (b : Int)).toNat xs.size) >>= fun _ => letGo _ >>= fun _ => ret .none) _ _ _
  rw [em, Int.toNat_natCast]
  refine wpAny_bind (wpAny_updateSeq (hz := by simp; rw [sizeLine_eq]; omega) (_hz' := by rw [ea]; simp; rw [sizeLine_eq]; omega) hx rfl ?_)
  refine wpAny_bind (wpAny_letGo (wpAny_pure ?_))
  refine ⟨_, rfl, ?_⟩
  exact wpAny_pure fin
end
end
local macro_rules | `(tactic| walk_at "my enter") => `(tactic| (refine wpAny_call ?_; k_dflt (refine' code_def ?k1 ?k2 ?k3 ?k4 ?k5 ?kA ?kF ?kK ?k6 ?k7 ?k8 ?k9 ?kB ?_ ?c2 ?c3 ?c4 ?c5; (case kA => exact rfl); (case kF => exact rfl); (case kK => assumption); (case k1 => k_asm); (case k2 => k_asm); (case k3 => k_asm); (case k4 => k_asm); (case k5 => k_asm); (case k6 => k_is); (case k7 => k_is); (case k8 => ktr_room); (case k9 => first | exact BindsTo.of_eq rfl | exact binds_K (by k_in) rfl (by k_is) rfl rfl rfl); (case c5 => decide); (case kB => exact locs rfl); (case c2 => exact rfl); (case c3 => exact rfl); (case c4 => exact rfl); k_whole; intro g' L' h' FG' F' N' B' X' T'; (try dsimp only); (try k_fold))))
local macro_rules | `(tactic| walk_at "subscriptTail Name Slice ref ref") => `(tactic| (k_here; (with_reducible show wpAny _ _ (subscriptTail _ (PySem.Expr.Slice _ _ none _) (Value.ref _) (Value.ref _)) _ _ _); k_dflt (refine' acc_slice ?F ?X ?N ?m ?p ?q ?_ ?s ?t ?z; (case F => k_asm); (case X => k_asm); (case N => k_asm); (case m => k_mem); (case p => kmk_part); (case q => kmk_part); (case s => with_unfolding_all rfl); (case t => kmk_pure); (case z => assumption)); intro D' h' F' N'))
local macro_rules | `(tactic| walk_at "setItem ref ref ref") => `(tactic| (k_here; k_dflt (refine' acc_setslice ?F ?X ?N ?m ?n ?p ?q ?_ ?z ?y; (case F => k_asm); (case X => k_asm); (case N => k_asm); (case m => k_mem); (case n => k_mem); (case p => kmk_part); (case q => kmk_part); (case z => assumption); (case y => first | assumption | decide)); intro h' n' F' N'))
theorem off_B1 : True := by
  w_top off
  trivial
section
set_option maxHeartbeats 1000000
theorem kms_lo_nat {i n : Nat} (h : i ≤ n) : kms_lo (some (i : Int)) n = i := by
  simp only [kms_lo]
  split <;> omega
theorem kms_pick_drop {i : Nat} {vs : List Value} (h : i ≤ vs.length) : kms_pick vs (some (i : Int)) none = vs.drop i := by
  unfold kms_pick
  rw [kms_lo_nat h]
  exact List.take_of_length_le (by simp [kms_hi])
theorem pop_from_spec {w : World} {led : Led} {r d : Addr} {cs : List Nat} {i : Nat} {ti : Tok} (H : AccAt led r d cs) (hl : cs.length < 900) (hi : i ≤ cs.length) :
    Spec w 53 5 20 [.ref r, .int i ti] led (fun v led' => ∃ b ws k, v = .ref b ∧ (b, listOf (List.toArray ws) k) ∈ led' ∧ Pieces led' ws (cs.drop i) ∧ AccAt led' r d (cs.take i) ∧ Keeps1 r led led') := by
  intro mean mg mb dp un gd cn cs' a ccd cl outer A₀ base h₀ L m s Q E B F X N T hk hdp hu ret
  obtain ⟨vs, n, hsh, t, t', k, hm, hdd, P⟩ := H.out
  have hlen : vs.length < 1000 := by rw [P.length]; omega
  have hi' : i ≤ vs.length := by rw [P.length]; exact hi
  walk_at "my enter"
  walk_at "my steps"
  rename Fr h₀ L _ _ => kF
  rename News h₀ L _ _ => kN
  rename News _ _ _ (_ :: _ :: led) => N1
  have e1 : kms_pick vs (some (i : Int)) none = vs.drop i := kms_pick_drop hi'
  have e2 : vs.take (kms_lo (some (i : Int)) vs.length) ++ [] ++ vs.drop (max (kms_lo (some (i : Int)) vs.length) (kms_hi none vs.length)) = vs.take i := by
    rw [kms_lo_nat hi', List.append_nil, List.drop_eq_nil_of_le (by simp [kms_hi]; omega), List.append_nil]
  rw [e1] at N1
  rw [e1, e2] at kN
  refine ret _ _ _ _ kF kN ⟨_, vs.drop i, 0, rfl, ?_, pieces_upd N1 (by k_mem) rfl ((P.mono fun _ _ _ hp => List.mem_cons_of_mem _ (List.mem_cons_of_mem _ hp)).drop i), acc_upd N1 (by k_mem) (by k_mem) ((P.mono fun _ _ _ hp => List.mem_cons_of_mem _ (List.mem_cons_of_mem _ hp)).take i), Keeps1.trans (fun p hp _ => List.mem_cons_of_mem _ (List.mem_cons_of_mem _ hp)) keeps_upd⟩
  refine upd_other (by k_mem) (News.ne N1 (show (_, listOf (vs.drop i).toArray 0) ∈ _ by k_mem) (show (r, accO d vs n) ∈ _ by k_mem) (fun e => nomatch e))
end
local macro_rules | `(tactic| walk_at "my enterS") => `(tactic| (refine wpAny_call ?_; k_dflt (refine' ks_code_super ?k1 ?k2 ?k3 ?k4 ?k5 ?kA ?kF ?kK ?k6 ?k7 ?k8 ?k9 ?kB ?_ ?c1 ?c2 ?c3 ?c4; (case kA => exact rfl); (case kF => exact rfl); (case kK => assumption); (case k1 => k_asm); (case k2 => k_asm); (case k3 => k_asm); (case k4 => k_asm); (case k5 => k_asm); (case k6 => k_is); (case k7 => k_is); (case k8 => ktr_room); (case k9 => first | exact BindsTo.of_eq rfl | exact binds_K (by k_in) rfl (by k_is) rfl rfl rfl); (case kB => exact locs rfl); (case c1 => decide); (case c2 => exact rfl); (case c3 => exact rfl); (case c4 => exact rfl); intro g' L' h' FG' F' N' B' X' T' l1; (try dsimp only))))
local macro_rules | `(tactic| walk_at "my leave") => `(tactic| (k_dflt (refine' leaveK_ ?k1 ?k2 ?_); (case k1 => k_asm); (case k2 => k_asm); intro kF kN; (try dsimp only)))
section
set_option maxHeartbeats 1000000
theorem Spec.use {w : World} {f : Addr} {d u : Nat} {vs : List Value} {news : Led} {Post : Value → Led → Prop} {mean : ExcName → Option Value} {mg mb : Str → Option Value} {dp un : Nat} {gd : Option (List Code)} {cn : Str} {cs : Scope} {a : Addr} {ccd : Value} {cl : List (Str × Addr)} {outer : List Env} {A₀ : Around} {base h₀ : Heap} {L : Addr} {m : Str → Option Value} {s : Shared} {Q E : Value → Shared → Prop}
    (S : Spec w f d u vs news Post) (B : Below A₀ base outer h₀) (F : Fr h₀ L s.heap m) (X : (hd.heap_1 w.params).In h₀) (N : News h₀ L s.heap news) (T : TT mean mg mb h₀) (hk : cs.kind = .function) (hdp : dp + d < recursionLimit) (hu : un + u < cLine)
    (ret : ∀ (v : Value) (h' : Heap) (tk' : Nat) (news' : Led), Fr h₀ L h' m → News h₀ L h' news' → Post v news' → Q v { s with heap := h', toks := tk' }) : wpAny (model PR w) (ktrTop dp un gd cn cs L a ccd cl outer) (call (.ref f) vs) Q E s :=
  S mean mg mb dp un gd cn cs a ccd cl outer A₀ base h₀ L m s Q E B F X N T hk hdp hu ret
theorem part_count_spec {w : World} {led : Led} {r d : Addr} {cs : List Nat} (H : AccAt led r d cs) :
    Spec w 98 5 20 [.ref r] led (fun v led' => (∃ t, v = .int cs.length t) ∧ ∀ p ∈ led, p ∈ led') := by
  intro mean mg mb dp un gd cn cs' a ccd cl outer A₀ base h₀ L m s Q E B F X N T hk hdp hu ret
  obtain ⟨vs, n, hsh, t, t', k, hm, hdd, P⟩ := H.out
  walk_at "my enterS"
  iterate 4 (walk_at "ks")
  k_dflt (refine' accL_super ?F ?X ?N ?m ?so (super_len _) (by decide) t_len slot_wd_get entry_wd_get (args_wd _ _ _) (fun hx hs hq => wd_run hx hs (.inr rfl) hq) ?_)
  case F => k_asm
  case X => k_asm
  case N => k_asm
  case m => k_mem
  case so => k_mem
  intro q' h' F' N'
  refine' callWith_bnd0 (cls := "method-wrapper") ?N ?q (by decide +kernel) (by decide +kernel) ?_
  case N => k_asm
  case q => k_mem
  refine' bndL_len ?N ?m ?q ?_
  case N => k_asm
  case m => k_mem
  case q => k_mem
  walk_at "my leave"
  rename Fr h₀ L _ _ => kF
  rename News h₀ L _ _ => kN
  exact ret _ _ _ _ kF kN ⟨⟨_, by rw [P.length]⟩, fun p hp => List.mem_cons_of_mem _ (List.mem_cons_of_mem _ hp)⟩
theorem mem2 {α : Type} {p a b : α} {l : List α} (h : p ∈ l) : p ∈ a :: b :: l := List.mem_cons_of_mem _ (List.mem_cons_of_mem _ h)
theorem snoc_cases {α : Type} : ∀ l : List α, l = [] ∨ ∃ l' c, l = l' ++ [c]
  | [] => .inl rfl
  | x :: l => .inr (by
    rcases snoc_cases l with rfl | ⟨l', c, rfl⟩
    · exact ⟨[], x, rfl⟩
    · exact ⟨x :: l', c, rfl⟩)
end
local macro_rules | `(tactic| walk_at "use") => `(tactic| ((case B => k_asm); (case F => k_asm); (case X => k_asm); (case N => k_asm); (case T => k_asm); (case kK => first | exact rfl | assumption); (case kd => ktr_room); (case ku => ktr_units)))
theorem off_B2 : True := by
  w_top off
  trivial
section
set_option maxHeartbeats 1000000
theorem pop_spec {w : World} {led : Led} {r d : Addr} {cs : List Nat} (H : AccAt led r d cs) (hl : cs.length < 900) :
    Spec w 61 10 40 [.ref r] led (fun v led' => Keeps1 r led led' ∧ ((cs = [] ∧ AccAt led' r d [] ∧ ∃ a t1 t2 n, v = .ref a ∧ (a, tupO [.str (Str.ofString "") t1, .str (Str.ofString "") t2] n) ∈ led') ∨ (∃ cs' c, cs = cs' ++ [c] ∧ AccAt led' r d cs' ∧ PieceIs led' v c))) := by
  intro mean mg mb dp un gd cn cs' a ccd cl outer A₀ base h₀ L m s Q E B F X N T hk hdp hu ret
  obtain ⟨vs, n, hsh, t, t', k, hm, hdd, P⟩ := H.out
  walk_at "my enterS"
  walk_at "ks"
  (ks_step "exec If"; refine ks_wpAt_If ?_)
  refine wpAt_of_wpAny ?_
  iterate 5 walk1
  k_dflt (refine' (part_count_spec (w := _) H).use ?B ?F ?X ?N ?T ?kK ?kd ?ku ?_)
  walk_at "use"
  intro v9 h9 tk9 n9 F9 N9 P9
  obtain ⟨⟨t9, rfl⟩, K9⟩ := P9
  have hm9 := K9 _ hm
  have hdd9 := K9 _ hdd
  iterate 3 walk1
  rcases snoc_cases cs with rfl | ⟨cs', c, rfl⟩
  · refine PySem.W.ite_pos rfl ?_
    refine wpAt_of_wpAny ?_
    walk_at "my steps"
    rename Fr h₀ L _ _ => kF
    rename News h₀ L _ _ => kN
    exact ret _ _ _ _ kF kN ⟨fun p hp _ => List.mem_cons_of_mem _ (K9 p hp), .inl ⟨rfl, (H.mono K9).mono fun p hp => List.mem_cons_of_mem _ hp, _, _, _, 0, rfl, List.mem_cons_self⟩⟩
  · refine PySem.W.ite_neg (by simp; omega) ?_
    refine wpAt_of_wpAny (wpAny_execs_nil ?_)
    (try dsimp only)
    iterate 4 (walk_at "ks")
    obtain ⟨vs', v, rfl⟩ : ∃ vs' v, vs = vs' ++ [v] := by
      rcases snoc_cases vs with rfl | h
      · exact absurd P.length (by simp)
      · exact h
    have hlv : vs'.length = cs'.length := by have := P.length; simpa using this
    k_dflt (refine' accL_super ?F ?X ?N ?m ?so (super_pop _) (by decide) t_pop slot_md_get entry_md_get (args_md _ _ _) (fun hx hs hq => md_run hx hs hq) ?_)
    case F => k_asm
    case X => k_asm
    case N => k_asm
    case m => k_mem
    case so => k_mem
    intro q' h' F' N'
    refine' callWith_bnd0 (cls := "builtin_function_or_method") ?N ?q (by decide +kernel) (by decide +kernel) ?_
    case N => k_asm
    case q => k_mem
    refine' bndL_pop ?F ?X ?N ?m ?q ?z ?_
    case F => k_asm
    case X => k_asm
    case N => k_asm
    case m => k_mem
    case q => k_mem
    case z => (simp at hl; omega)
    intro h8 F8 N8
    (try dsimp only)
    walk_at "my leave"
    rename Fr h₀ L _ _ => kF
    rename News h₀ L _ _ => kN
    have P1 : Pieces led vs' cs' := by simpa [hlv] using P.take vs'.length
    have P2 : PieceIs led v c := by
      obtain ⟨c', e1, e2⟩ := P.get (i := vs'.length) (v := v) (by simp)
      rw [hlv] at e1
      simp at e1
      exact e1 ▸ e2
    refine ret _ _ _ _ kF kN ⟨Keeps1.trans (fun p hp _ => mem2 (K9 p hp)) keeps_upd, .inr ⟨cs', c, rfl, acc_upd N' (by k_mem) (by k_mem) (P1.mono fun _ _ _ hp => mem2 (K9 _ hp)), ?_⟩⟩
    exact (P2.mono fun _ _ _ _ hp => upd_other (mem2 (K9 _ hp)) (News.ne N' (mem2 (K9 _ hp)) (show (r, accO d (vs' ++ [v]) n) ∈ _ by k_mem) (fun e => nomatch e)))
end
theorem off_B3 : True := by
  w_top off
  trivial
section
set_option maxHeartbeats 1000000
/-- all but two objects are kept -/
noncomputable def Keeps2 (r d : Addr) (led led' : Led) : Prop := ∀ p ∈ led, p.1 ≠ r → p.1 ≠ d → p ∈ led'
theorem put_sz (hh : Int) (key v v0 : Value) (hsh : Int) (t : Tok) (k : Nat) : (putL "_initial_size" hh key v [⟨hsh, .str (Str.ofString "_initial_size") t, v0⟩], putN "_initial_size" [⟨hsh, .str (Str.ofString "_initial_size") t, v0⟩] k) = ([⟨hsh, .str (Str.ofString "_initial_size") t, v⟩], k) := by kernel_rfl
theorem get_sz (v0 : Value) (hsh : Int) (t : Tok) : (getL "_initial_size" [⟨hsh, .str (Str.ofString "_initial_size") t, v0⟩]).isSome = true := by kernel_rfl
theorem reset_spec {w : World} {led : Led} {r d b : Addr} {cs cs2 : List Nat} {ws : List Value} {kb : Nat} (H : AccAt led r d cs) (hl : cs.length < 900) (hb : (b, listOf ws.toArray kb) ∈ led) (P2 : Pieces led ws cs2) (hl2 : cs2.length < 900) :
    Spec w 83 5 20 [.ref r, .ref b] led (fun v led' => v = .none ∧ AccAt led' r d cs2 ∧ Keeps2 r d led led') := by
  intro mean mg mb dp un gd cn cs' a ccd cl outer A₀ base h₀ L m s Q E B F X N T hk hdp hu ret
  obtain ⟨vs, n, hsh, t, t', k, hm, hdd, P⟩ := H.out
  have hlen : vs.length < 1000 := by rw [P.length]; omega
  have hlen2 : ws.length < 1000 := by rw [P2.length]; omega
  have hdr : d ≠ r := News.ne N hdd hm (fun e => nomatch e)
  have htr : ∀ a vs n, (a, tupO vs n) ∈ led → a ≠ r ∧ a ≠ d := fun a vs n h => ⟨News.ne N h hm (fun e => nomatch e), News.ne N h hdd (show Value.type "tuple" ≠ Value.type "dict" by decide)⟩
  walk_at "my enter"
  iterate 23 (first | (k_unfold; (try dsimp only)) | walk1 | (dsimp only; walk1))
  rename News _ _ _ (upd r _ led) => N1
  k_dflt (refine' acc_set ?F ?X N1 upd_self (upd_other hdd hdr) ?k10 ?k11 ?k13 ?_)
  case F => k_asm
  case X => k_asm
  case k10 => exact get_sz _ _ _
  case k11 => exact put_sz _ _ _ _ _ _ _
  case k13 => exact Nat.le_of_ble_eq_true rfl
  intro h5 F5 N5
  walk_at "my steps"
  rename Fr h₀ L _ _ => kF
  rename News h₀ L _ _ => kN
  have e2 : vs.take (kms_lo none vs.length) ++ ws ++ vs.drop (max (kms_lo none vs.length) (kms_hi none vs.length)) = ws := by
    simp [kms_lo, kms_hi]
  rw [e2] at kN
  exact ret _ _ _ _ kF kN ⟨rfl, ⟨⟨ws, _, _, _, _, _, upd_other upd_self (Ne.symm hdr), upd_self, P2.mono fun a vs n hp => upd_other (upd_other hp (htr _ _ _ hp).1) (htr _ _ _ hp).2⟩⟩, fun p hp h1 h2 => upd_other (upd_other hp h1) h2⟩
end
section
set_option maxHeartbeats 1000000
theorem fa_it (w : World) : findIn (hd.heap_1 w.params) (.ref 101) "__iter__" = some (some (.builtin "list.__iter__")) := by k_is
noncomputable def refOf : Value → Option Addr
  | .ref a => some a
  | _ => none
section
variable {prog : Program} {w : World} {A : Around} {E : Value → Shared → Prop} {s : Shared} {x d I : Addr} {vs : List Value} {n i : Nat}
theorem acc_iter {Q : Value → Shared → Prop} (X : (hd.heap_1 w.params).In s.heap) (hx : s.heap.get? x = some (accO d vs n))
    (hQ : Q (.ref s.heap.objs.size) { s with heap := s.heap.push { cls := .type "list_iterator", data := .fields #[.ref x, .int 0 0] } }) :
    wpAny (model prog w) A (pyIter (.ref x)) Q E s := by
  have fin : wpAny (model prog w) A (call (.builtin "list.__iter__") [.ref x]) (fun it s' => s'.TypeIs it "list_iterator" ∧ Q it s') E s := by
    refine call_on (owner := "list") (n := "__iter__") (self := .ref x) (rest := []) (.inr (by decide +kernel)) (by decide +kernel) (by decide +kernel) entry_list_iter (args_list_iter (.ref x)) (acc_inst X hx) ?_
    show wpAny _ _ (do ret (← newFields "list_iterator" [.ref x, rawInt 0])) _ _ s
    exact wpAny_bind (wpAny_newObj_type (wpAny_pure ⟨_, rfl, ⟨_, Heap.get?_push_size _ rfl, rfl⟩, hQ⟩))
  have out : ∀ it s', s'.TypeIs it "list_iterator" ∧ Q it s' → wpAny (model prog w) A (do match ← specialOf it "__next__" with
      | none => rule "iter.non-iterator"; raiseError "TypeError" s!"iter() returned non-iterator of type '{← typeNameOf it}'"
      | some _ => pure it) Q E s' := fun it s' h => wpAny_bind (wpAny_specialOf h.1 slot_listiter_next.lookup (wpAny_pure h.2))
  unfold pyIter
  refine wpAny_bind ?_
  unfold specialOf
  refine wpAny_bind ((acc_type hx).here ((looks_findIn X (fa_it w)).here ?_))
  show wpAny _ A (callSpecialIfBoundUnlessNone? (.ref x) "__iter__" _ >>= _) Q E s
  refine wpAny_bind ?_
  unfold callSpecialIfBoundUnlessNone? bindSpecialIfBound? specialOf
  refine wpAny_holding (wpAny_bind (wpAny_bind (wpAny_bind ((acc_type hx).here ((looks_findIn X (fa_it w)).here ?_)))))
  simp only [slot_list_iter.bind]
  refine wpAny_bind (wpAny_askSetting (wpAny_ite ?_))
  split
  · refine wpAny_bind (wpAny_pure (wpAny_pure ?_))
    simp only [builtin_beq_none, Bool.false_eq_true, if_false]
    exact wpAny_bind (wpAny_mono fin (fun v s' h' => wpAny_pure (out v s' h')) fun _ _ h' => h')
  · refine wpAny_tryCatch (wpAny_bind (wpAny_pure (wpAny_pure ?_)))
    simp only [builtin_beq_none, Bool.false_eq_true, if_false]
    exact wpAny_bind (wpAny_mono fin (fun v s' h' => wpAny_pure (out v s' h')) fun _ _ h' => h')
theorem acc_next {Q : Option Value → Shared → Prop} (hit : s.heap.IsListIter I x i) (hx : s.heap.get? x = some (accO d vs n)) {v : Value} (hv : vs[i]? = some v)
    (hQ : ∀ h', h'.IsListIter I x (i + 1) → Heap.SameBut I s.heap h' → Q (some v) { s with heap := h' }) : wpAny (model prog w) A (pyNext (.ref I)) Q E s := by
  obtain ⟨o, ho, hc, hd9⟩ := id hit
  refine wpAny_bind (wpAny_attempt (wpAny_callSpecial?_slot (name := Str.ofString "__next__") hit.typeIs slot_listiter_next (wpAny_call_entry slot_listiter_next hit.typeIs entry_listiter_next ?_ (args_listiter_next _))))
  show wpAny _ _ (field (.ref I) 0 >>= _) _ _ s
  refine wpAny_bind (wpAny_field ho hd9 (x := .ref x) rfl ?_)
  show wpAny _ _ (if (Value.ref x == Value.none) = true then _ else _) _ _ s
  rw [if_neg (show ¬ ((Value.ref x == Value.none) = true) from Bool.false_ne_true)]
  refine wpAny_bind (wpAny_field ho hd9 (x := .int i 0) rfl (wpAny_bind (wpAny_seqItems hx rfl ?_)))
  have hv' : vs.toArray[i]? = some v := by simpa using hv
  simp only [Int.toNat_natCast, hv']
  refine wpAny_bind (wpAny_setField ho hd9 (by simp) (wpAny_pure ⟨v, rfl, wpAny_pure (hQ _ ?_ (Heap.SameBut.update ..))⟩))
  refine ⟨_, Heap.get?_update_self _ ho (Obj.isFreed_of_fields (Obj.data_mapFields hd9 _)), (Obj.cls_mapFields ..).trans hc, ?_⟩
  rw [Obj.data_mapFields hd9]
  simp [rawInt]
theorem acc_stop {Q : Option Value → Shared → Prop} (hh : A.handled = none) (hit : s.heap.IsListIter I x i) (hx : s.heap.get? x = some (accO d vs n)) (hv : vs[i]? = none)
    (hQ : ∀ h', Heap.ExtBut I s.heap h' → Q none { s with heap := h' }) : wpAny (model prog w) A (pyNext (.ref I)) Q E s := by
  obtain ⟨o, ho, hc, hd9⟩ := id hit
  refine wpAny_bind (wpAny_attempt (wpAny_callSpecial?_slot (name := Str.ofString "__next__") hit.typeIs slot_listiter_next (wpAny_call_entry slot_listiter_next hit.typeIs entry_listiter_next ?_ (args_listiter_next _))))
  show wpAny _ _ (field (.ref I) 0 >>= _) _ _ s
  refine wpAny_bind (wpAny_field ho hd9 (x := .ref x) rfl ?_)
  show wpAny _ _ (if (Value.ref x == Value.none) = true then _ else _) _ _ s
  rw [if_neg (show ¬ ((Value.ref x == Value.none) = true) from Bool.false_ne_true)]
  refine wpAny_bind (wpAny_field ho hd9 (x := .int i 0) rfl (wpAny_bind (wpAny_seqItems hx rfl ?_)))
  have hv' : vs.toArray[i]? = none := by simpa using hv
  simp only [Int.toNat_natCast, hv']
  refine wpAny_bind (wpAny_rule (wpAny_bind (wpAny_setField ho hd9 (by simp) ?_)))
  show wpAny _ _ (newExc (.type "StopIteration") [] >>= _) _ _ _
  refine wpAny_bind ?_
  simp only [newExc, newTuple]
  refine wpAny_bind (wpAny_newObj_type ?_ (by size_fits))
  refine wpAny_bind (m := firstArgMember _ _) (wpAny_of_eq (a := Value.none) (by first | rfl | (simp only [firstArgMember]; rfl)) ?_)
  refine wpAny_newObj_type ?_ (by size_fits)
  simp only [raiseNew]
  refine wpAny_bind (wpAny_handled ?_)
  rw [show A.in1.handled = none from hh]
  refine wpAny_bind (wpAny_pure (wpAny_throw ?_))
  refine wpAny_bind (wpAny_isInstance (T := "StopIteration") (b := true) ⟨_, Heap.get?_push_size _ rfl, rfl⟩ isSubtype_stop ?_)
  refine wpAny_pure (hQ _ fun b o' hb e => ?_)
  exact Heap.get?_push_of_some _ (Heap.get?_push_of_some _ ((Heap.get?_update_ne _ _ _ _ hb).trans e))
end
section
variable {prog : Program} {w : World} {A : Around}
noncomputable abbrev accSt (I ax d : Addr) (vs : List Value) (n j : Nat) (h : Heap) : Prop := h.IsListIter I ax j ∧ h.get? ax = some (accO d vs n)
/-- an accumulator's iterator -/
theorem accWalks (hh : A.handled = none) (I ax d : Addr) (hne : ax ≠ I) (vs : List Value) (n : Nat) :
    Walks prog w A I [I, ax] [I] vs.length (fun i v => vs[i]? = some v) (accSt I ax d vs n) where
  sub := fun b hb => by simp at hb; simp [hb]
  frame := fun _ _ _ st hk => ⟨st.1.at fun o e => hk I (by simp) o e, hk ax (by simp) _ st.2⟩
  item := fun i s Q E hi st hQ => acc_next st.1 st.2 (v := vs[i]) (by simp [hi]) fun h' hit' hs' =>
    hQ _ h' s.toks (by simp [hi]) ⟨hit', hs'.extBut _ _ hne st.2⟩ fun b o hb e => hs'.extBut b o (fun h => hb (by simp [h])) e
  done := fun s Q E st hQ => acc_stop hh st.1 st.2 (by simp) fun h' he' => hQ h' s.toks fun b o hb e => he' b o (fun h => hb (by simp [h])) e
  self := fun _ _ _ _ st hQ => wpAny_pyIter_listiter st.1 hQ
noncomputable def pieceO (c : Nat) (t1 t2 : Tok) (n : Nat) : Obj := tupO [.str (Str.ofString "") t1, .str (sg c) t2] n
noncomputable abbrev accTup (vs : List Value) (cs : List Nat) (I : Addr) (h : Heap) : Prop := ∀ k T, vs[k]? = some (.ref T) → T ≠ I ∧ ∃ t1 t2 n, h.get? T = some (pieceO (cs.getD k 0) t1 t2 n)
theorem accWalksU (hh : A.handled = none) (I ax d : Addr) (hne : ax ≠ I) (vs : List Value) (cs : List Nat) (n : Nat) (hr : ∀ k, k < vs.length → ∃ T, vs[k]? = some (.ref T)) :
    WalksU prog w A I (I :: ax :: vs.filterMap refOf) [I] vs.length (fun j v => j < vs.length ∧ ∃ t1 t2, v = #[.str (Str.ofString "") t1, .str (sg (cs.getD j 0)) t2])
      (fun j h => accSt I ax d vs n j h ∧ accTup vs cs I h) (fun j T h => (vs[j]? = some (.ref T) ∧ T ≠ I) ∧ accSt I ax d vs n (j + 1) h ∧ accTup vs cs I h) where
  sub := fun b hb => by simp at hb; simp [hb]
  frame := fun _ _ _ st hk => ⟨⟨st.1.1.at fun o e => hk I (by simp) o e, hk ax (by simp) _ st.1.2⟩, fun k T hT => ⟨(st.2 k T hT).1, let ⟨t1, t2, n, e⟩ := (st.2 k T hT).2
    ⟨t1, t2, n, hk T (List.mem_cons_of_mem _ (List.mem_cons_of_mem _ (List.mem_filterMap.mpr ⟨.ref T, List.mem_of_getElem? hT, rfl⟩))) _ e⟩⟩⟩
  item := fun i s Q E hi st hQ => by
    obtain ⟨T, hT⟩ := hr i hi
    refine acc_next st.1.1 st.1.2 (v := .ref T) hT fun h' hit' hs' => ?_
    have tup : accTup vs cs I h' := fun k T hT => ⟨(st.2 k T hT).1, let ⟨t1, t2, n, e⟩ := (st.2 k T hT).2; ⟨t1, t2, n, hs'.extBut _ _ (st.2 k T hT).1 e⟩⟩
    obtain ⟨h1, t1, t2, n', e⟩ := tup i T hT
    exact hQ T _ h' s.toks ⟨hi, t1, t2, rfl⟩ ⟨_, e, rfl, _, rfl⟩ ⟨⟨hT, h1⟩, ⟨hit', hs'.extBut _ _ hne st.1.2⟩, tup⟩ fun b o hb e => hs'.extBut b o (fun h => hb (by simp [h])) e
  go := fun _ _ _ _ _ s Q _ hm hQ => wpAny_letOwnedTupleGo_listiter hm.2.1.1 (hQ s.heap hm.2 fun _ _ _ e => e)
  apart := fun j T _ hm hmem => by
    rcases List.mem_cons.mp hmem with e | e
    · exact hm.1.2 e
    · cases e
  done := fun s Q E st hQ => acc_stop hh st.1.1 st.1.2 (by simp) fun h' he' => hQ h' s.toks fun b o hb e => he' b o (fun h => hb (by simp [h])) e
  self := fun _ _ _ _ st hQ => wpAny_pyIter_listiter st.1.1 hQ
end
end
theorem off_C2 : True := by
  w_top off
  trivial
section
set_option maxHeartbeats 1000000
theorem pass_all (n : Nat) : passing (fun _ => true) n 0 = List.range n := by simp [passing]
theorem led_le {h₀ h : Heap} {L : Addr} {led : Led} (N : News h₀ L h led) : ∀ p ∈ led, p.1 < h.objs.size := fun p hp => Heap.lt_size (N p hp).1
theorem news_grow {h₀ h h' : Heap} {L P : Addr} {led : Led} {ps ps' : Array Value} (N : News h₀ L h led) (hP : (P, tabObj ps) ∈ led) (hk : Heap.ExtBut P h h') (hP' : h'.get? P = some (tabObj ps')) : News h₀ L h' (upd P (tabObj ps') led) := fun p hp => by
  rcases List.mem_cons.mp hp with rfl | q
  · exact ⟨hP', (N _ hP).2⟩
  · obtain ⟨q1, q2⟩ := List.mem_filter.mp q
    have hne : p.1 ≠ P := by simpa using q2
    exact ⟨hk _ _ hne (N p q1).1, (N p q1).2⟩
section
variable {M : Model} {A : Around} {E : Value → Shared → Prop} {s : Shared} {c P : Addr} {ps : Array Value} {env : Env} {pos : Pos} {q : Str} {scope : Scope}
/-- a generator's code: made, or found in the table -/
theorem gcode {Q : Value → Shared → Prop} (hc : env.code = .ref c) (C : CodeHd s.heap c P) (hP : s.heap.get? P = some (tabObj ps)) (ht : TriplesOk ps.toList)
    (hQ : ∀ code h' tk ps', Heap.ExtBut P s.heap h' → s.heap.objs.size ≤ h'.objs.size → h'.get? P = some (tabObj ps') → TriplesOk ps'.toList → Q code { s with heap := h', toks := tk }) :
    wpAny M A (genexprCode env pos q scope) Q E s := by
  have hok := C.code hP ht
  cases hnf : codeAmong pos ps.toList with
  | none =>
    refine wpAny_genexprCodeX hc hok (C.tab hP) hnf fun c' h' tk hx h1 h2 hcode _ htab _ => hQ _ h' tk _ hx (Nat.le_trans h1 (Nat.le_of_lt h2)) htab.2 ?_
    obtain ⟨o, vs, file, tf, flags, tg, inF, text, tt, op, ho, hd9, h11, h2, h7, h9, h10, hop, hpd, htr, hne⟩ := hcode
    exact htr
  | some cv =>
    obtain ⟨o, vs, file, tf, flags, tg, inF, text, tt, op, ho, hd9, h11, h2, h7, h9, h10, hop, hpd, htr, hne⟩ := id hok
    unfold genexprCode codeAt
    rw [hc, if_neg (show ¬ ((Value.ref c == Value.none) = true) from Bool.false_ne_true)]
    refine wpAny_bind (wpAny_fieldsOf ho hd9 ?_)
    rw [h11]
    refine wpAny_bind (wpAny_fieldsOf hop hpd ?_)
    rw [hnf]
    exact wpAny_pure (hQ cv s.heap s.toks ps (Heap.ExtBut.refl _ _) (Nat.le_refl _) hP ht)
end
theorem Pieces.refs {led : Led} {vs : List Value} {cs : List Nat} (P : Pieces led vs cs) : ∀ k, k < vs.length → ∃ T, vs[k]? = some (.ref T) := fun k hk => by
  obtain ⟨c, _, a, _, _, _, e, _⟩ := P.get (i := k) (v := vs[k]) (by simp [hk])
  exact ⟨a, by rw [← e]; simp [hk]⟩
theorem Pieces.tup {h₀ h : Heap} {L I : Addr} {led : Led} {vs : List Value} {cs : List Nat} (P : Pieces led vs cs) (N : News h₀ L h led) (hI : h.objs.size ≤ I) : accTup vs cs I h := fun k T hT => by
  obtain ⟨c, hc, a, t1, t2, n, e, hm⟩ := P.get hT
  cases e
  refine ⟨fun e => ?_, t1, t2, n, ?_⟩
  · exact Nat.lt_irrefl _ (Nat.lt_of_lt_of_le (led_le N _ hm) (e ▸ hI))
  · rw [show cs.getD k 0 = c by simp [List.getD_eq_getElem?_getD, hc]]
    exact (N _ hm).1
theorem walksS_imp {prog : Program} {w : World} {A : Around} {I : Addr} {fp wr : List Addr} {G : Array GenState → Array GenState → Prop} {n n' : Nat} {P P' : Nat → Value → Prop} {St : Nat → Shared → Prop}
    (W : WalksS prog w A I fp wr G n P St) (e : n = n') (h : ∀ i v, i < n → P i v → P' i v) : WalksS prog w A I fp wr G n' P' St := by
  subst e
  exact ⟨W.sub, W.grefl, W.gtrans, W.frame, fun i s Q E hi st hQ => W.item i s Q E hi st fun v s' hp => hQ v s' (h i v hi hp), W.done, W.self⟩
section
variable {w : World} {A : Around} {E : Value → Shared → Prop} {s : Shared} {h₀ : Heap} {L r d c P : Addr} {m mg mb : Str → Option Value} {led : Led} {vs : List Value} {cs : List Nat} {n : Nat} {ps : Array Value} {mean : ExcName → Option Value}
/-- a generator over an accumulator's signs is made -/
theorem acc_genexp {env : Env} {elt iter : Expr} {xa xb : Str} {pa pb pt : Pos} {kt : Nat} {scope : Scope} {cl : List (Str × Addr)} {pos : Pos} {Q : Value → Shared → Prop} {Fv : Nat → Value → Prop}
    (F : Fr h₀ L s.heap m) (X₀ : (hd.heap_1 w.params).In h₀) (N : News h₀ L s.heap led) (T : TT mean mg mb h₀) (G : AllBare s.gens)
    (hm : (r, accO d vs n) ∈ led) (Pc : Pieces led vs cs) (hP : (P, tabObj ps) ∈ led) (ht : TriplesOk ps.toList) (hC : codeHdIn (hd.heap_1 w.params) c P = true) (hcode : env.code = .ref c)
    (hh : A.handled = none) (hco : scope.isCoroutine = false) (hclos : closureFor scope env = pure cl) (hcell : ∀ y ∈ scope.names, y.2 ≠ .cell) (h0 : scope.names.lookup (".0" : Str) = some NameKind.local)
    (hxa : scope.names.lookup xa = some .local) (hxb : scope.names.lookup xb = some .local) (hab : xa ≠ xb) (hkind : scope.kind = .function) (hroom : A.depth < recursionLimit) (hge : env.globals = mainGlobals)
    (hi : ∀ Q' : Value → Shared → Prop, Q' (.ref r) s → wpAny (model PR w) A (eval iter env) Q' E s)
    (helt : ∀ (A' : Around) E' i t1 t2 (u : Shared) C m₂ code, A'.handled = none → A'.depth ≤ A.depth + 1 → A'.units ≤ A.units + 8 → i < cs.length → Fr h₀ C u.heap m₂ → m₂ xa = some (.str (Str.ofString "") t1) → m₂ xb = some (.str (sg (cs.getD i 0)) t2) →
      wpAny (model PR w) A' (eval elt (genEnv scope cl C code builtinsNs env)) (fun y s₃ => Fv (cs.getD i 0) y ∧ Keeps u s₃) E' u)
    (hQ : ∀ a K s' ps', Fr h₀ L s'.heap m → News h₀ L s'.heap (upd P (tabObj ps') led) → TriplesOk ps'.toList → AllBare s'.gens → s'.os = s.os → L ≤ K → (∀ p ∈ led, p.1 ≤ K) →
      Gen PR w A K a cs.length (fun j y => Fv (cs.getD j 0) y) s' → Q (.ref a) s')
    (hs : ∀ x, genFold iter env x = pure x) :
    wpAny (model PR w) A (eval (.GeneratorExp elt [⟨.Tuple [.Name xa pa, .Name xb pb] kt pt, iter, [], 0⟩] scope pos) env) Q E s := by
  have X : (hd.heap_1 w.params).In s.heap := X₀.keeps F.keep
  have hlen := Pc.length
  refine wpAny_GeneratorExp_walksQTD hh hco hclos hcell h0 hxa hxb hab hkind hroom (hi _ (acc_iter X (N.get hm) ?_)) hs
  have hl0 : s.heap.NoLimit := T.nolimit.keeps F.keep
  refine ⟨hl0.push _, ?_⟩
  have F1 := F.push { cls := .type "list_iterator", data := .fields #[.ref r, .int 0 0] }
  have hP1 : (s.heap.push { cls := .type "list_iterator", data := .fields #[.ref r, .int 0 0] }).get? P = some (tabObj ps) := Heap.get?_push_of_some _ (N _ hP).1
  refine gcode (s := { s with heap := _ }) hcode ((codeHd_of_K X₀ hC).keeps fun b o e => Heap.get?_push_of_some _ (F.keep b o e)) hP1 ht fun code h3 tk3 ps' hx3 hsz3 hP3 ht3 => ?_
  replace hx3 : Heap.ExtBut P (s.heap.push { cls := .type "list_iterator", data := .fields #[.ref r, .int 0 0] }) h3 := hx3
  replace hsz3 : (s.heap.push { cls := .type "list_iterator", data := .fields #[.ref r, .int 0 0] }).objs.size ≤ h3.objs.size := hsz3
  rw [Heap.size_push] at hsz3
  have hx : Heap.ExtBut P s.heap h3 := fun b o hb e => hx3 b o hb (Heap.get?_push_of_some _ e)
  have N3 := news_grow N hP hx hP3
  have hPh0 : ∀ b o, h₀.get? b = some o → b ≠ P := fun b o e z => by rw [z, (N _ hP).2.2] at e; cases e
  have F3 : Fr h₀ L h3 m := by
    refine ⟨F.ns.at fun o e => hx L o (Ne.symm (N _ hP).2.1) e, fun b o e => hx b o (hPh0 b o e) (F.keep b o e), F.above⟩
  have T3 := T.keeps F3.keep
  obtain ⟨bm, ob, M3⟩ := bmod_of_top T3
  have hLs : L < s.heap.objs.size := F.ns.lt
  have hcs : cStatics < s.heap.objs.size := let ⟨_, hn, _⟩ := hl0; hn.lt
  have hIP : s.heap.objs.size ≠ P := fun e => Nat.lt_irrefl _ (e ▸ led_le N _ hP)
  have hrI : r ≠ s.heap.objs.size := fun e => Nat.lt_irrefl _ (e ▸ led_le N _ hm)
  have hrP : r ≠ P := News.ne N hm hP (fun e => nomatch e)
  refine wpAny_builtinsFor (by rw [hge]; exact M3.ns) M3.name M3.ne M3.obj M3.cls M3.dict M3.data ?_
  have hit3 : h3.IsListIter s.heap.objs.size r 0 := ⟨_, hx3 _ _ hIP (Heap.get?_push_size _ rfl), rfl, rfl⟩
  have hacc3 : h3.get? r = some (accO d vs n) := hx r _ hrP (N _ hm).1
  have Pc3 : Pieces (upd P (tabObj ps') led) vs cs := Pc.mono fun a vs n hm => upd_other hm (News.ne N hm hP (fun e => nomatch e))
  have tup3 : accTup vs cs s.heap.objs.size h3 := fun k T hT => by
    obtain ⟨hne, t1, t2, n, e⟩ := Pc.tup (I := s.heap.objs.size) N (Nat.le_refl _) k T hT
    refine ⟨hne, t1, t2, n, hx T _ (fun z => ?_) e⟩
    rw [z, (N _ hP).1] at e; cases e
  refine ⟨s.heap.objs.size, s.heap.objs.size :: r :: vs.filterMap refOf, [s.heap.objs.size], vs.length, _, _, _, fun _ => true, fun i y => Fv (cs.getD i 0) y, rfl, fun A' hA => accWalksU hA s.heap.objs.size r d hrI vs cs n Pc.refs,
    (fun i vals hv => by obtain ⟨_, t1, t2, rfl⟩ := hv; exact ⟨_, _, rfl⟩), ⟨⟨hit3, hacc3⟩, tup3⟩, ?_, T3.nolimit, (fun hmem => ?_), (fun href hhref => ?_), fun a h₅ tk gs hgb hag hsz₅ hk₅ W hat => ?_⟩
  · intro b hb
    show b < h3.objs.size
    rcases List.mem_cons.mp hb with rfl | hb
    · exact hsz3
    · rcases List.mem_cons.mp hb with rfl | hb
      · exact Heap.lt_size hacc3
      · obtain ⟨v, hv, e⟩ := List.mem_filterMap.mp hb
        obtain ⟨k, hk, rfl⟩ := List.getElem_of_mem hv
        obtain ⟨T, hT⟩ := Pc.refs k hk
        have e2 : vs[k] = .ref T := by simpa [hk] using hT
        rw [e2] at e; cases e
        obtain ⟨_, _, _, _, e⟩ := tup3 k b hT
        exact Heap.lt_size e
  · rcases List.mem_cons.mp hmem with e | e
    · exact Nat.lt_irrefl _ (e ▸ hcs)
    · cases e
  · have inB : ∀ (t : Shared) m₂, t.heap.Ns h3.objs.size m₂ → (∀ b ∈ List.range h3.objs.size, b ∉ [s.heap.objs.size] → ∀ o, href.get? b = some o → t.heap.get? b = some o) → Fr h₀ h3.objs.size t.heap m₂ := fun t m₂ hn hkp =>
      ⟨hn, fun b o e => hkp b (List.mem_range.mpr (Heap.lt_size (F3.keep b o e))) (fun hm => by
          rcases List.mem_cons.mp hm with z | z
          · exact Nat.lt_irrefl _ (Nat.lt_of_lt_of_le (Nat.lt_of_lt_of_le (Heap.lt_size e) F.above) (Nat.le_of_lt (z ▸ hLs)))
          · cases z) o (hhref b o (F3.keep b o e)), Nat.le_trans F3.above (Nat.le_of_lt F3.ns.lt)⟩
    refine ⟨fun A' E' i va vb t m₂ hA hD hU hP hn hma hmb hkp => ?_, fun A' E' i va vb t m₂ hA hD hU hPt hp hn hma hmb hkp => ?_⟩
    · exact wpAny_pure ⟨rfl, t.heap, t.toks, rfl, fun _ _ e => e⟩
    · obtain ⟨hi9, t1, t2, e⟩ := hPt
      have e1 := congrArg (fun a : Array Value => a[0]?) e
      have e2 := congrArg (fun a : Array Value => a[1]?) e
      simp at e1 e2
      subst e1 e2
      exact helt A' E' i t1 t2 t _ m₂ code hA hD hU (hlen ▸ hi9) (inB t m₂ hn hkp) hma hmb
  have W2 := walksS_imp (n' := cs.length) (P' := fun j y => Fv (cs.getD j 0) y) W (by rw [pass_all, List.length_range, hlen]) fun i v hi hp => by
    obtain ⟨i', h1, h2⟩ := hp
    rw [pass_all] at h1
    have : i' = i := by
      obtain ⟨hlt, e⟩ := List.getElem?_eq_some_iff.mp h1
      simpa using e.symm
    subst this
    exact h2
  refine hQ a (s.heap.objs.size - 1) _ ps' (F3.keeps hk₅) (N3.grown hk₅) ht3 (G.push hgb) rfl (Nat.le_sub_one_of_lt hLs) (fun p hp => Nat.le_sub_one_of_lt (led_le N p hp)) ⟨_, _, _, _, W2, hat, (fun i s' st => st.1.typeIs), List.mem_cons_self, ?_, ?_⟩
  · intro b hb
    show b < h₅.objs.size
    rw [hsz₅]
    have hag' : h3.objs.size < a := hag
    rcases List.mem_cons.mp hb with rfl | hb
    · exact Nat.lt_succ_self _
    · rcases List.mem_cons.mp hb with rfl | hb
      · exact Nat.lt_succ_of_lt hag'
      · exact Nat.lt_succ_of_lt (Nat.lt_trans (List.mem_range.mp hb) hag')
  · intro b hb
    rcases List.mem_cons.mp hb with rfl | hb
    · show s.heap.objs.size - 1 < h3.objs.size
      omega
    · rcases List.mem_cons.mp hb with rfl | hb
      · exact Nat.sub_lt (Nat.lt_of_le_of_lt (Nat.zero_le _) hLs) Nat.one_pos
      · cases hb
end
end
theorem off_C3 : True := by
  w_top off
  trivial
section
set_option maxHeartbeats 1000000
noncomputable abbrev RetG (h₀ : Heap) (L : Addr) (m : Str → Option Value) (s : Shared) (Q : Value → Shared → Prop) (Post : Value → Led → Prop) : Prop :=
  ∀ (v : Value) (s' : Shared) (news' : Led), Fr h₀ L s'.heap m → News h₀ L s'.heap news' → AllBare s'.gens → s'.os = s.os → Post v news' → Q v s'
/-- a contract of a def that makes generators -/
noncomputable def SpecG (w : World) (f : Addr) (d u : Nat) (vs : List Value) (news : Led) (Post : Value → Led → Prop) : Prop :=
  ∀ (mean : ExcName → Option Value) (mg mb : Str → Option Value) (dp un : Nat) (gd : Option (List Code)) (cn : Str) (cs : Scope) (a : Addr) (ccd : Value) (cl : List (Str × Addr)) (outer : List Env) (A₀ : Around) (base h₀ : Heap) (L : Addr) (m : Str → Option Value) (s : Shared) (Q E : Value → Shared → Prop),
    Below A₀ base outer h₀ → Fr h₀ L s.heap m → (hd.heap_1 w.params).In h₀ → News h₀ L s.heap news → TT mean mg mb h₀ → cs.kind = .function → dp + d < recursionLimit → un + u < cLine → AllBare s.gens →
    RetG h₀ L m s Q Post → wpAny (model PR w) (ktrTop dp un gd cn cs L a ccd cl outer) (call (.ref f) vs) Q E s
/-- the two tables of made codes -/
structure Tabs (led : Led) : Prop where
  out : ∃ ps ps', (70, tabObj ps) ∈ led ∧ TriplesOk ps.toList ∧ (63, tabObj ps') ∈ led ∧ TriplesOk ps'.toList
noncomputable abbrev txt (cs : List Nat) : Str := ⟨cs.toArray⟩
noncomputable abbrev strEnv (L : Addr) : Env := envOf (Str.ofString "_Accumulator.__str__")
          { kind := ScopeKind.function,
            names := [(Str.ofString "self", NameKind.local), (Str.ofString "EMPTYSTRING", NameKind.globalImplicit)],
            isGenerator := false, isCoroutine := false }
          L 75 (Value.ref 74)
noncomputable abbrev strScope : Scope :=
  { kind := ScopeKind.function,
    names := [(Str.ofString ".0", NameKind.local), (Str.ofString "fws", NameKind.local), (Str.ofString "part", NameKind.local), (Str.ofString "EMPTYSTRING", NameKind.globalImplicit)],
    isGenerator := true, isCoroutine := false }
theorem str_elt {w : World} {c : Nat} {g : Heap} {L C : Addr} {mean : ExcName → Option Value} {mg mb m₂ : Str → Option Value} {u : Shared} {A' : Around} {E' : Value → Shared → Prop} {t1 t2 : Tok} {code : Value}
    (F : Fr g C u.heap m₂) (X : (hd.heap_1 w.params).In g) (T : TT mean mg mb g) (hma : m₂ (Str.ofString "fws") = some (.str (Str.ofString "") t1)) (hmb : m₂ (Str.ofString "part") = some (.str (sg c) t2)) :
    wpAny (model PR w) A' (eval (((Expr.Name (Str.ofString "EMPTYSTRING") { line := 35, col := 33, endLine := 35, endCol := 44 }).Attribute (Str.ofString "join") { line := 35, col := 33, endLine := 35, endCol := 49 }).Call [Expr.Tuple [Expr.Name (Str.ofString "fws") { line := 35, col := 51, endLine := 35, endCol := 54 }, Expr.Name (Str.ofString "part") { line := 35, col := 56, endLine := 35, endCol := 60 }] 0 { line := 35, col := 50, endLine := 35, endCol := 61 }] [] { line := 35, col := 33, endLine := 35, endCol := 62 })
      (genEnv strScope [] C code builtinsNs (strEnv L))) (fun y s₃ => (∃ t, y = .str (sg c) t) ∧ Keeps u s₃) E' u := by
  refine MethodCall_ ?_
  refine nameG_K F X (topRead_of T) (by k_is) ?_ rfl rfl rfl (by decide)
  walk1
  walk1
  walk1
  walk1
  walk1
  refine ldG (cenv := genEnv strScope [] C code builtinsNs (strEnv L)) F.ns hma ?_
  walk1
  refine ldG (cenv := genEnv strScope [] C code builtinsNs (strEnv L)) F.ns hmb ?_
  walk1
  refine wpAny_newTuple ?_
  walk1
  refine join_tupleC (items := #[.str (Str.ofString "") t1, .str (sg c) t2]) (ys := [Str.ofString "", sg c]) ⟨_, Heap.get?_push_size _ rfl, rfl, _, rfl⟩ (.cons _ _ (.cons _ _ .nil)) (by decide) (Nat.le_of_ble_eq_true rfl) fun t' k => ⟨⟨t', ?_⟩, _, _, rfl, fun b o e => Heap.get?_push_of_some _ e⟩
  rw [show Txt.join (Str.ofString "") [Str.ofString "", sg c] = sg c from by kernel_rfl]
theorem map_sg (cs : List Nat) : (List.range cs.length).map (fun j => sg (cs.getD j 0)) = cs.map sg := by
  apply List.ext_getElem
  · simp
  · intro i h1 h2
    simp at h1
    simp [List.getD_eq_getElem?_getD, h1]
theorem sum_sg (cs : List Nat) : ((cs.map sg).map (·.length)).sum = cs.length := by
  induction cs with
  | nil => rfl
  | cons c cs ih =>
    simp only [List.map_cons, List.sum_cons, List.length_cons, ih]
    show 1 + cs.length = cs.length + 1
    omega
theorem empty_append (x : Str) : Str.ofString "" ++ x = x := by
  show (⟨(Str.ofString "").cps ++ x.cps⟩ : Str) = x
  rw [show (Str.ofString "").cps = #[] from by kernel_rfl]
  simp
theorem append_empty (x : Str) : x ++ Str.ofString "" = x := by
  show (⟨x.cps ++ (Str.ofString "").cps⟩ : Str) = x
  rw [show (Str.ofString "").cps = #[] from by kernel_rfl]
  simp
theorem txt_cons (c : Nat) (cs : List Nat) : sg c ++ txt cs = txt (c :: cs) := by
  show (⟨#[c] ++ cs.toArray⟩ : Str) = _
  simp [txt]
theorem join_sg : ∀ cs : List Nat, Txt.join (Str.ofString "") (cs.map sg) = txt cs := by
  intro cs
  show PySem.Builtin.Str.glued _ _ = _
  rw [StrLaws.glued_eq_join]
  induction cs with
  | nil => rfl
  | cons c cs ih =>
    cases cs with
    | nil => rfl
    | cons c2 cs =>
      show sg c ++ Str.ofString "" ++ Str.join (Str.ofString "") ((c2 :: cs).map sg) = _
      rw [ih, append_empty, txt_cons]
theorem str_spec {w : World} {led : Led} {r d : Addr} {cs : List Nat} (H : AccAt led r d cs) (hl : cs.length < 900) (HT : Tabs led) :
    SpecG w 75 10 40 [.ref r] led (fun v led' => (∃ t, v = .str (txt cs) t) ∧ Keeps1 70 led led' ∧ Tabs led') := by
  intro mean mg mb dp un gd cn cs' a ccd cl outer A₀ base h₀ L m s Q E B F X N T hk hdp hu G ret
  obtain ⟨vs, n, hsh, t, t', k, hm, hdd, P⟩ := H.out
  obtain ⟨ps, ps2, hP, ht, hP2, ht2⟩ := HT.out
  walk_at "my enter"
  walk_at "my steps"
  rename Fr _ _ _ (fun y => List.lookup y _) => F1
  rename News _ _ _ _ => N1
  rename Top _ _ _ _ _ _ => T1
  rename (hd.heap_1 w.params).In _ => X1
  refine acc_genexp (ps := ps) (P := 70) (c := 74) (cl := []) (Fv := fun c y => ∃ t, y = .str (sg c) t) F1 X1 N1 T1 G hm P hP ht (by kernel_rfl) rfl (by rfl) rfl rfl (by decide) rfl rfl rfl (by decide) rfl (by ktr_room) rfl ?_ ?_ ?_ (fun _ => rfl)
  · intro Q' hq
    walk1
    exact hq
  · intro A' E' i t1 t2 u C m₂ code hA hD hU hi F2 hma hmb
    exact str_elt F2 X1 T1 hma hmb
  · intro a9 K s' ps' F2 N2 ht3 G2 hos hLK hle X2
    walk1
    refine join_rowsK F2 G2 X2 hLK (fun j => sg (cs.getD j 0)) (fun j v hv => hv) ?_ (fun s5 t5 F5 G5 os5 hk5 => ?_) (by unfold sizeLine; omega)
    · rw [map_sg]
      refine joinOk_of ?_
      rw [sum_sg]
      show cs.length + (cs.map sg).length * 0 ≤ _
      omega
    · have N5 : News _ _ s5.heap (upd 70 (tabObj ps') led) := fun p hp => by
        refine ⟨hk5 _ _ ?_ (N2 p hp).1, (N2 p hp).2⟩
        rcases List.mem_cons.mp hp with rfl | q
        · exact hle (70, tabObj ps) hP
        · exact hle _ (List.mem_filter.mp q).1
      rw [map_sg, join_sg]
      dsimp only [qk]
      refine leaveK_ F5 N5 fun kF kN => ?_
      exact ret _ s5 _ kF kN G5 (os5.trans hos) ⟨⟨t5, rfl⟩, keeps_upd, ⟨ps', ps2, upd_self, ht3, upd_other hP2 (show (63 : Nat) ≠ 70 by decide), ht2⟩⟩
end
section
set_option maxHeartbeats 1000000
section
variable {prog : Program} {w : World} {A : Around} {E : Value → Shared → Prop} {s : Shared} {h₀ : Heap} {L K a : Addr} {m : Str → Option Value} {n : Nat} {F : Nat → Value → Prop}
theorem args_sum0 (a : Value) (t : Tok) : argsOk "sum" ⟨[a, .int 0 t], []⟩ := by unfold argsOk; kernel_rfl

theorem sum_start0 {t0 : Tok} {Q : Value → Shared → Prop} (Fh : Fr h₀ L s.heap m) (G : AllBare s.gens) (X : Gen prog w A K a n F s) (hLK : L ≤ K) (val : Nat → Int) (hval : ∀ j v, F j v → ∃ t, v = .int (val j) t) (hfit : ∀ j, j < n → InLong (val j) ∧ InLong (preSum val (j + 1)))
    (hQ : ∀ s' t', Fr h₀ L s'.heap m → AllBare s'.gens → s'.os = s.os → (∀ b o, b ≤ K → s.heap.get? b = some o → s'.heap.get? b = some o) → Q (.int (preSum val n) t') s') : wpAny (model prog w) A (call (.builtin "sum") [.ref a, .int 0 t0]) Q E s := by
  obtain ⟨fp, wr, g, St, W, hst, _, _, hfp, hwr⟩ := X
  have W := W.in4_1
  refine call_function_tree PySem.F.kind_sum PySem.F.plain_sum PySem.F.entry_sum (args_sum0 _ _) ?_
  unfold Builtin.«sum»
  simp only [List.length_cons, List.length_nil]
  rw [if_neg (by decide)]
  refine wpAny_bind (wpAny_of_eq (show Builtin.Builtins.bindParams "sum" ["start"] 0 { pos := [.int 0 t0], kw := [] } = pure [some (Value.int 0 t0)] from rfl) ?_)
  refine wpAny_bind (W.self 0 _ _ _ hst ?_)
  refine wpAny_bind ?_
  refine wpAny_rule (wpAny_bind (wpAny_mkInt (wpAny_bind (wpAny_pure ?_))))
  simp only [List.forIn_cons, List.forIn_nil]
  refine wpAny_bind (wpAny_bind (wpAny_bind (wpAny_isInstance (T := "int") (b := false) (typeIs_int _ _ _) PySem.sub_int_str ?_)))
  simp only [Bool.false_eq_true, if_false]
  refine wpAny_pure (wpAny_bind (wpAny_bind (wpAny_isInstance (T := "int") (b := false) (typeIs_int _ _ _) PySem.sub_int_bytes ?_)))
  simp only [Bool.false_eq_true, if_false]
  refine wpAny_pure (wpAny_bind (wpAny_bind (wpAny_isInstance (T := "int") (b := false) (typeIs_int _ _ _) PySem.sub_int_bytearray ?_)))
  simp only [Bool.false_eq_true, if_false]
  refine wpAny_pure (wpAny_pure ?_)
  refine wpAny_bind (wpAny_newObj_type ?_)
  have hSf : s.heap.objs.size ∉ fp := fun hm => Nat.lt_irrefl _ (hfp _ hm)
  refine wpAny_pure ⟨plainId_quiet PySem.F.plain_sum_loop _, codeAny_sum_loopS W val hval hfit s.heap.objs.size hSf n 0 _ s.toks 0 rfl (Nat.zero_le _)
    (W.frame 0 s _ _ hst (by first | exact Nat.le_refl _ | exact Nat.le_succ _ | omega) fun b _ o e => Heap.get?_push_of_some _ e) (Heap.get?_push_size _ rfl) fun s' t' hm => ?_⟩
  have hm := hm.drop_new (by first | exact Nat.le_refl _ | exact Nat.le_succ _ | omega)
  exact hQ s' t' (Fh.moved hm fun b hb => Nat.lt_of_le_of_lt hLK (hwr b hb)) (G.movedS hm) hm.os fun b o hb e => hm.heap b o (fun hmem => Nat.lt_irrefl _ (Nat.lt_of_lt_of_le (hwr b hmem) hb)) e
end
end
theorem off_C5 : True := by
  w_top off
  trivial
section
set_option maxHeartbeats 1000000
theorem gen_B {w : World} {M : Model} {A : Around} {E : Value → Shared → Prop} {s : Shared} {h₀ : Heap} {L : Addr} {m mg mb : Str → Option Value} {mean : ExcName → Option Value} {env : Env} {x : Str} {pos : Pos} {v : Value} {Q : Value → Shared → Prop}
    (F : Fr h₀ L s.heap m) (X : (hd.heap_1 w.params).In h₀) (T : TT mean mg mb h₀) (e : nsIn (hd.heap_1 w.params) mainGlobals x = some none) (hv : bootBuiltins x = some v) (hn : x ≠ "__name__") (h : Q v s)
    (hg : env.globals = mainGlobals) (hb : env.builtins = builtinsNs) (hk : env.scope.kind = .function) (hx : env.kindOf x = some .globalImplicit) (hd9 : (x == ("__debug__" : Str)) = false) :
    wpAny M A (eval (.Name x pos) env) Q E s :=
  Name_function_global hk hx (loadGlobal_builtin (env := env) (by rw [hg]; exact T.g.keeps F.keep) (mg_none_of X T.g e) (by rw [hb]; exact T.b.keeps F.keep) ((T.builtins x hn).trans hv) h) hd9
noncomputable abbrev lenEnv (L : Addr) : Env := envOf (Str.ofString "_Accumulator.__len__")
  { kind := ScopeKind.function, names := [(Str.ofString "self", NameKind.local), (Str.ofString "sum", NameKind.globalImplicit)], isGenerator := false, isCoroutine := false } L 68 (Value.ref 67)
noncomputable abbrev lenScope : Scope :=
  { kind := ScopeKind.function,
    names := [(Str.ofString ".0", NameKind.local), (Str.ofString "fws", NameKind.local), (Str.ofString "part", NameKind.local), (Str.ofString "len", NameKind.globalImplicit)],
    isGenerator := true, isCoroutine := false }
theorem len_elt {w : World} {c : Nat} {g : Heap} {L C : Addr} {mean : ExcName → Option Value} {mg mb m₂ : Str → Option Value} {u : Shared} {A' : Around} {E' : Value → Shared → Prop} {t1 t2 : Tok} {code : Value}
    (F : Fr g C u.heap m₂) (X : (hd.heap_1 w.params).In g) (T : TT mean mg mb g) (hma : m₂ (Str.ofString "fws") = some (.str (Str.ofString "") t1)) (hmb : m₂ (Str.ofString "part") = some (.str (sg c) t2)) :
    wpAny (model PR w) A' (eval (((Expr.Name (Str.ofString "len") { line := 32, col := 20, endLine := 32, endCol := 23 }).Call [Expr.Name (Str.ofString "fws") { line := 32, col := 24, endLine := 32, endCol := 27 }] [] { line := 32, col := 20, endLine := 32, endCol := 28 }).BinOp
          Operator.Add ((Expr.Name (Str.ofString "len") { line := 32, col := 31, endLine := 32, endCol := 34 }).Call [Expr.Name (Str.ofString "part") { line := 32, col := 35, endLine := 32, endCol := 39 }] [] { line := 32, col := 31, endLine := 32, endCol := 40 })
          { line := 32, col := 20, endLine := 32, endCol := 40 })
      (genEnv lenScope [] C code builtinsNs (lenEnv L))) (fun y s₃ => (∃ t, y = .int 1 t) ∧ Keeps u s₃) E' u := by
  walk1
  walk1
  refine gen_B (env := genEnv lenScope [] C code builtinsNs (lenEnv L)) F X T (by k_is) (v := .builtin "len") (by boot_by_name) (by decide) ?_ rfl rfl rfl rfl (by decide)
  walk1
  walk1
  refine ldG (cenv := genEnv lenScope [] C code builtinsNs (lenEnv L)) F.ns hma ?_
  walk1
  walk1
  walk1
  refine gen_B (env := genEnv lenScope [] C code builtinsNs (lenEnv L)) F X T (by k_is) (v := .builtin "len") (by boot_by_name) (by decide) ?_ rfl rfl rfl rfl (by decide)
  walk1
  walk1
  refine ldG (cenv := genEnv lenScope [] C code builtinsNs (lenEnv L)) F.ns hmb ?_
  walk1
  walk1
  walk1
  exact ⟨⟨_, rfl⟩, _, _, rfl, fun b o e => e⟩
theorem preSum_one (n : Nat) : preSum (fun _ => 1) n = (n : Int) := by
  induction n with
  | zero => rfl
  | succ n ih =>
    show preSum (fun _ => 1) n + 1 = _
    rw [ih]
    omega
theorem gen_toks {prog : Program} {w : World} {A : Around} {L a : Addr} {n : Nat} {F : Nat → Value → Prop} {s : Shared} {tk : Nat} (X : Gen prog w A L a n F s) (h : s.toks ≤ tk) : Gen prog w A L a n F { s with toks := tk } := by
  obtain ⟨fp, wr, g, St, W, h1, h2, h3, h4, h5⟩ := X
  exact ⟨fp, wr, g, St, W, W.frame 0 s s.heap tk h1 h fun _ _ _ e => e, h2, h3, h4, h5⟩
theorem len_spec {w : World} {led : Led} {r d : Addr} {cs : List Nat} (H : AccAt led r d cs) (hl : cs.length < 900) (HT : Tabs led) :
    SpecG w 68 10 40 [.ref r] led (fun v led' => (∃ t, v = .int cs.length t) ∧ Keeps1 63 led led' ∧ Tabs led') := by
  intro mean mg mb dp un gd cn cs' a ccd cl outer A₀ base h₀ L m s Q E B F X N T hk hdp hu G ret
  obtain ⟨vs, n, hsh, t, t', k, hm, hdd, P⟩ := H.out
  obtain ⟨ps, ps2, hP, ht, hP2, ht2⟩ := HT.out
  walk_at "my enter"
  walk_at "my steps"
  rename Fr _ _ _ (fun y => List.lookup y _) => F1
  rename News _ _ _ _ => N1
  rename Top _ _ _ _ _ _ => T1
  rename (hd.heap_1 w.params).In _ => X1
  refine acc_genexp (ps := ps2) (P := 63) (c := 67) (cl := []) (Fv := fun c y => ∃ t, y = .int 1 t) F1 X1 N1 T1 G hm P hP2 ht2 (by kernel_rfl) rfl (by rfl) rfl rfl (by decide) rfl rfl rfl (by decide) rfl (by ktr_room) rfl ?_ ?_ ?_ (fun _ => rfl)
  · intro Q' hq
    walk1
    exact hq
  · intro A' E' i t1 t2 u C m₂ code hA hD hU hi F2 hma hmb
    exact len_elt F2 X1 T1 hma hmb
  · intro a9 K s' ps' F2 N2 ht3 G2 hos hLK hle X2
    walk_at "my steps"
    have hdd2 : (d, szO hsh t t' k) ∈ upd 63 (tabObj ps') led := upd_other hdd (News.ne N hdd hP2 (fun e => nomatch e))
    have hm2 : (r, accO d vs n) ∈ upd 63 (tabObj ps') led := upd_other hm (News.ne N hm hP2 (fun e => nomatch e))
    refine accL_get F2 X1 N2 hm2 hdd2 (sz_find w hsh t t' k) rfl ?_
    walk1
    refine sum_start0 (s := { s' with toks := s'.toks + 1 }) F2 G2 (gen_toks X2 (Nat.le_succ _)) hLK (fun _ => 1) (fun j v hv => hv) (fun j hj => ?_) (fun s5 t5 F5 G5 os5 hk5 => ?_)
    · rw [preSum_one]
      unfold InLong
      omega
    · have N5 : News _ _ s5.heap (upd 63 (tabObj ps') led) := fun p hp => by
        refine ⟨hk5 _ _ ?_ (N2 p hp).1, (N2 p hp).2⟩
        rcases List.mem_cons.mp hp with rfl | q
        · exact hle (63, tabObj ps2) hP2
        · exact hle _ (List.mem_filter.mp q).1
      rw [preSum_one]
      dsimp only [qk]
      refine leaveK_ F5 N5 fun kF kN => ?_
      exact ret _ s5 _ kF kN G5 (os5.trans hos) ⟨⟨t5, rfl⟩, keeps_upd, ⟨ps, ps', upd_other hP (show (70 : Nat) ≠ 63 by decide), ht, upd_self, ht3⟩⟩
end
local macro_rules | `(tactic| walk_at "my size") => `(tactic| (k_dflt (refine' accL_get ?F ?X ?N ?m ?d (sz_find _ _ _ _ _) rfl ?_); (case F => k_asm); (case X => k_asm); (case N => k_asm); (case m => k_mem); (case d => k_mem)))
local macro_rules | `(tactic| walk_at "useG") => `(tactic| ((case B => k_asm); (case F => k_asm); (case X => k_asm); (case N => k_asm); (case T => k_asm); (case kK => first | exact rfl | assumption); (case kd => ktr_room); (case ku => ktr_units); (case G => first | assumption | exact G)))
theorem off_C6 : True := by
  w_top off
  trivial
section
set_option maxHeartbeats 1000000
theorem SpecG.use {w : World} {f : Addr} {d u : Nat} {vs : List Value} {news : Led} {Post : Value → Led → Prop} {mean : ExcName → Option Value} {mg mb : Str → Option Value} {dp un : Nat} {gd : Option (List Code)} {cn : Str} {cs : Scope} {a : Addr} {ccd : Value} {cl : List (Str × Addr)} {outer : List Env} {A₀ : Around} {base h₀ : Heap} {L : Addr} {m : Str → Option Value} {s : Shared} {Q E : Value → Shared → Prop}
    (S : SpecG w f d u vs news Post) (B : Below A₀ base outer h₀) (F : Fr h₀ L s.heap m) (X : (hd.heap_1 w.params).In h₀) (N : News h₀ L s.heap news) (T : TT mean mg mb h₀) (hk : cs.kind = .function) (hdp : dp + d < recursionLimit) (hu : un + u < cLine) (G : AllBare s.gens)
    (ret : ∀ (v : Value) (s' : Shared) (news' : Led), Fr h₀ L s'.heap m → News h₀ L s'.heap news' → AllBare s'.gens → s'.os = s.os → Post v news' → Q v s') : wpAny (model PR w) (ktrTop dp un gd cn cs L a ccd cl outer) (call (.ref f) vs) Q E s :=
  S mean mg mb dp un gd cn cs a ccd cl outer A₀ base h₀ L m s Q E B F X N T hk hdp hu G ret
noncomputable def Letters (cs : List Nat) : Prop := ∀ c ∈ cs, c = 97 ∨ c = 65 ∨ c = 98 ∨ c = 66
theorem fa_bool (w : World) : findIn (hd.heap_1 w.params) (.ref 101) "__bool__" = some none := by k_is
theorem fa_len (w : World) : findIn (hd.heap_1 w.params) (.ref 101) "__len__" = some (some (.ref 68)) := by k_is
theorem fn_len (w : World) : typeIn (hd.heap_1 w.params) (.ref 68) = some (.type "function") := by k_is
theorem acc_truthy {prog : Program} {w : World} {A : Around} {E : Value → Shared → Prop} {s : Shared} {x : Addr} {ox : Obj} {od : Option Obj} {Q : Bool → Shared → Prop} (X : (hd.heap_1 w.params).In s.heap) (I : InstAt s.heap x ox 101 od)
    (h : wpAny (model prog w) A.in1 (call (.ref 68) [.ref x]) (fun r s' => ∃ n t, r = .int n t ∧ (0 ≤ n ∧ n < 2 ^ 63) ∧ Q (n != 0) { s' with toks := s'.toks + 1 }) E s) : wpAny (model prog w) A (truthy (.ref x)) Q E s := by
  have key : wpAny (model prog w) A (runValue (.builtin "len" ⟨[.ref x], []⟩)) (fun r s' => ∃ n t, r = .int n t ∧ Q (n != 0) s') E s := by
    refine wpAny_runValue (codeAny_builtin entry_len ?_)
    rw [Around.under_plainId plain_len _]
    refine wpAny_mono (Q := fun fin s' => ∃ n t, fin = .done (.ret (.int n t)) ∧ Q (n != 0) s') (E := E) ?_ (fun fin s' h' => by obtain ⟨n, t, rfl, hq⟩ := h'; exact ⟨n, t, rfl, hq⟩) fun _ _ e => e
    unfold Builtin.«len»
    refine wpAny_bind (m := oneArg "len" _) (wpAny_pure ?_)
    refine wpAny_bind (m := callSpecial? (.ref x) (Str.ofString "__len__")) (special_fn X I (fa_len w) (fn_len w) (wpAny_mono h (fun r s' hr => ?_) fun _ _ y => y))
    obtain ⟨n, t, rfl, ⟨h0, h1⟩, hq⟩ := hr
    refine wpAny_bind (wpAny_holding (wpAny_pure ?_))
    refine wpAny_bind (wpAny_letGo ?_)
    show wpAny _ _ (if n < 0 then _ else _) _ _ _
    rw [if_neg (by omega)]
    show wpAny _ _ (if n ≥ 2 ^ 63 then _ else _) _ _ _
    rw [if_neg (by omega)]
    exact wpAny_bind (wpAny_mkInt (wpAny_pure ⟨_, _, rfl, hq⟩))
  unfold truthy
  refine wpAny_bind (m := callSpecial? (.ref x) (Str.ofString "__bool__")) (wpAny_bind (wpAny_bind (I.type.here ((looks_findIn X (fa_bool w)).here (wpAny_pure ?_)))))
  refine wpAny_bind (wpAny_bind (I.type.here ((looks_findIn X (fa_len w)).here ?_)))
  refine wpAny_bind (wpAny_mono key (fun r s' hr => ?_) fun _ _ e => e)
  obtain ⟨n, t, rfl, hq⟩ := hr
  exact wpAny_pure hq
theorem accL_truthy {prog : Program} {w : World} {A : Around} {E : Value → Shared → Prop} {s : Shared} {h₀ : Heap} {L x d : Addr} {m : Str → Option Value} {led : Led} {vs : List Value} {n : Nat} {od : Obj} {Q : Bool → Shared → Prop} (F : Fr h₀ L s.heap m) (X₀ : (hd.heap_1 w.params).In h₀) (N : News h₀ L s.heap led) (hm : (x, accO d vs n) ∈ led) (hdd : (d, od) ∈ led)
    (h : wpAny (model prog w) A.in1 (call (.ref 68) [.ref x]) (fun r s' => ∃ n t, r = .int n t ∧ (0 ≤ n ∧ n < 2 ^ 63) ∧ Q (n != 0) { s' with toks := s'.toks + 1 }) E s) : wpAny (model prog w) A (truthy (.ref x)) Q E s :=
  acc_truthy (X₀.keeps F.keep) (acc_instAt (N.get hm) (N.get hdd)) h
theorem fa_str (w : World) : findIn (hd.heap_1 w.params) (.ref 101) "__str__" = some (some (.ref 75)) := by k_is
theorem fn_str (w : World) : isFn (hd.heap_1 w.params) (.ref 75) = true := by k_is
theorem accL_str {prog : Program} {w : World} {A : Around} {E : Value → Shared → Prop} {s : Shared} {h₀ : Heap} {L x d : Addr} {m : Str → Option Value} {led : Led} {vs : List Value} {n : Nat} {od : Obj} {Q : Value → Shared → Prop} (F : Fr h₀ L s.heap m) (X₀ : (hd.heap_1 w.params).In h₀) (N : News h₀ L s.heap led) (hm : (x, accO d vs n) ∈ led) (hdd : (d, od) ∈ led)
    (hu : A.in1.in1.units < cLine) (h : wpAny (model prog w) A.in1.in1 (call (.ref 75) [.ref x]) (StrBack Q) E s) : wpAny (model prog w) A (call (.type "str") [.ref x]) Q E s :=
  kso_call hu (X₀.keeps F.keep) (acc_instAt (N.get hm) (N.get hdd)) (fa_str w) (fn_str w) h
/-- an accumulator where another object has changed -/
theorem AccAt.but {h₀ h : Heap} {L P r d : Addr} {led led' : Led} {o : Obj} {cs : List Nat} (H : AccAt led r d cs) (N : News h₀ L h led) (hP : (P, o) ∈ led) (hc : o.cls = .none) (K : Keeps1 P led led') : AccAt led' r d cs := by
  obtain ⟨vs, n, hsh, t, t', k, h1, h2, h3⟩ := H.out
  exact ⟨vs, n, hsh, t, t', k, K _ h1 (News.ne N h1 hP (by rw [hc]; exact fun e => nomatch e)), K _ h2 (News.ne N h2 hP (by rw [hc]; exact fun e => nomatch e)), h3.mono fun a vs n hp => K _ hp (News.ne N hp hP (by rw [hc]; exact fun e => nomatch e))⟩
theorem txt_isspace {cs : List Nat} (hL : Letters cs) (hc : cs ≠ []) : Txt.isspace (txt cs) = false := by
  cases cs with
  | nil => exact absurd rfl hc
  | cons c cs =>
    have h := hL c (List.mem_cons_self)
    have h2 : Unicode.isSpace c = false := by
      rcases h with rfl | rfl | rfl | rfl <;> decide +kernel
    simp [Txt.isspace, txt, h2]
theorem onlyws_spec {w : World} {led : Led} {r d : Addr} {cs : List Nat} (H : AccAt led r d cs) (hl : cs.length < 900) (hL : Letters cs) (HT : Tabs led) :
    SpecG w 90 20 80 [.ref r] led (fun v led' => v = .bool (cs == []) ∧ (∀ p ∈ led, p.1 ≠ 63 → p.1 ≠ 70 → p ∈ led') ∧ Tabs led') := by
  intro mean mg mb dp un gd cn cs' a ccd cl outer A₀ base h₀ L m s Q E B F X N T hk hdp hu G ret
  obtain ⟨vs, n, hsh, t, t', k, hm, hdd, P⟩ := H.out
  obtain ⟨ps, ps2, hP, ht, hP2', ht2⟩ := HT.out
  walk_at "my enter"
  walk_at "my steps"
  walk_at "my size"
  walk_at "my steps"
  k_dflt (refine' accL_truthy ?F ?X ?N ?m ?d ?_)
  case F => k_asm
  case X => k_asm
  case N => k_asm
  case m => k_mem
  case d => k_mem
  k_dflt (refine' (len_spec (w := _) H hl HT).use ?B ?F ?X ?N ?T ?kK ?kd ?ku ?G ?_)
  case G => exact G
  case B => k_asm
  case F => k_asm
  case X => k_asm
  case N => k_asm
  case T => k_asm
  case kK => exact rfl
  case kd => ktr_room
  case ku => ktr_units
  intro v9 s9 n9 F9 N9 G9 os9 P9
  obtain ⟨⟨t9, rfl⟩, K9, T9⟩ := P9
  refine ⟨_, _, rfl, by omega, ?_⟩
  walk1
  have K9' : ∀ p ∈ led, p.1 ≠ 63 → p ∈ n9 := K9
  by_cases hc : cs = []
  · subst hc
    refine PySem.W.ite_pos rfl ?_
    dsimp only [qk]
    refine leaveK_ F9 N9 fun kF kN => ?_
    exact ret _ _ _ kF kN G9 os9 ⟨rfl, fun p hp h1 h2 => K9 p hp h1, T9⟩
  · have hne : ((cs.length : Int) != 0) = true := by
      cases cs with
      | nil => exact absurd rfl hc
      | cons c cs => simp; omega
    rw [hne]
    refine PySem.W.ite_neg (by simp) ?_
    rename Top _ _ _ _ _ _ => T0
    have hm9 := K9 _ hm (News.ne N hm hP2' (fun e => nomatch e))
    have hdd9 := K9 _ hdd (News.ne N hdd hP2' (fun e => nomatch e))
    have H9 := H.but N hP2' rfl K9
    walk_at "my steps"
    k_dflt (refine' accL_str ?F ?X ?N ?m ?d ?u ?_)
    case F => k_asm
    case X => k_asm
    case N => k_asm
    case m => k_mem
    case d => k_mem
    case u => ktr_units
    k_dflt (refine' (str_spec (w := _) H9 hl T9).use ?B ?F ?X ?N ?T ?kK ?kd ?ku ?G ?_)
    case G => exact G9
    case B => k_asm
    case F => k_asm
    case X => k_asm
    case N => k_asm
    case T => k_asm
    case kK => exact rfl
    case kd => ktr_room
    case ku => ktr_units
    intro v8 s8 n8 F8 N8 G8 os8 P8
    obtain ⟨⟨t8, rfl⟩, K8, T8⟩ := P8
    show wpAny _ _ _ _ _ _
    (try dsimp only)
    walk_at "my steps"
    have e : Txt.isspace (txt cs) = (cs == []) := by
      rw [txt_isspace hL hc]
      cases cs with
      | nil => exact absurd rfl hc
      | cons c cs => rfl
    rw [e]
    rename Fr h₀ L _ _ => kF
    rename News h₀ L _ _ => kN
    exact ret _ _ _ kF kN G8 (os8.trans os9) ⟨rfl, fun p hp h1 h2 => K8 p (K9 p hp h1) h2, T8⟩
end
section
set_option maxHeartbeats 1000000
noncomputable abbrev No : Value → Shared → Prop := fun _ _ => False
noncomputable abbrev Still (s s' : Shared) : Prop := ∃ h tk, s' = { s with heap := h, toks := tk }
noncomputable abbrev Stir (s s' : Shared) : Prop := AllBare s'.gens ∧ s'.os = s.os
theorem still_go {s s₁ : Shared} (h : Heap) (tk : Nat) : Still s s₁ → Still s { s₁ with heap := h, toks := tk } := by
  rintro ⟨_, _, rfl⟩
  exact ⟨h, tk, rfl⟩
theorem stir_go {s s₁ : Shared} (h : Heap) (tk : Nat) : Stir s s₁ → Stir s { s₁ with heap := h, toks := tk } := id
theorem news_change {h₀ h h' : Heap} {L I : Addr} {led : Led} {o o' : Obj} (N : News h₀ L h led) (hI : (I, o) ∈ led) (hk : ∀ b y, b ≠ I → h.get? b = some y → h'.get? b = some y) (e : h'.get? I = some o') : News h₀ L h' (upd I o' led) := fun p hp => by
  rcases List.mem_cons.mp hp with rfl | q
  · exact ⟨e, (N _ hI).2⟩
  · obtain ⟨q1, q2⟩ := List.mem_filter.mp q
    have hne : p.1 ≠ I := by simpa using q2
    exact ⟨hk _ _ hne (N p q1).1, (N p q1).2⟩
theorem fr_change {h₀ h h' : Heap} {L I : Addr} {m : Str → Option Value} {led : Led} {o : Obj} (F : Fr h₀ L h m) (N : News h₀ L h led) (hI : (I, o) ∈ led) (hk : ∀ b y, b ≠ I → h.get? b = some y → h'.get? b = some y) : Fr h₀ L h' m :=
  ⟨F.ns.at fun y e => hk L y (Ne.symm (N _ hI).2.1) e, fun b y e => hk b y (fun z => by have := (N _ hI).2.2; rw [← z, e] at this; cases this) (F.keep b y e), F.above⟩
/-- an iterator that is told of in the ledger -/
structure Src (prog : Program) (w : World) (A : Around) (I : Addr) (need : Led) (n : Nat) (P : Nat → Value → Prop) (It : Nat → Obj → Prop) : Prop where
  item : ∀ {h₀ : Heap} {L : Addr} {m : Str → Option Value} {s : Shared} {led : Led} {i : Nat} {o : Obj} {Q : Option Value → Shared → Prop} {E : Value → Shared → Prop}, i < n → Fr h₀ L s.heap m → News h₀ L s.heap led → (I, o) ∈ led → It i o → (∀ p ∈ need, p ∈ led) →
    (∀ v h' tk o', P i v → It (i + 1) o' → Fr h₀ L h' m → News h₀ L h' (upd I o' led) → Q (some v) { s with heap := h', toks := tk }) → wpAny (model prog w) A (pyNext (.ref I)) Q E s
  done : ∀ {h₀ : Heap} {L : Addr} {m : Str → Option Value} {s : Shared} {led : Led} {o : Obj} {Q : Option Value → Shared → Prop} {E : Value → Shared → Prop}, Fr h₀ L s.heap m → News h₀ L s.heap led → (I, o) ∈ led → It n o → (∀ p ∈ need, p ∈ led) →
    (∀ h' tk, Fr h₀ L h' m → News h₀ L h' (led.filter (fun p => p.1 != I)) → Q none { s with heap := h', toks := tk }) → wpAny (model prog w) A (pyNext (.ref I)) Q E s
theorem Src.ofWalks {prog : Program} {w : World} {A : Around} {I : Addr} {fp : List Addr} {need : Led} {n : Nat} {P : Nat → Value → Prop} {St : Nat → Heap → Prop} {It : Nat → Obj → Prop} (W : Walks prog w A I fp [I] n P St)
    (hout : ∀ i h, St i h → ∃ o, h.get? I = some o ∧ It i o) (hin : ∀ i h o, h.get? I = some o → It i o → (∀ p ∈ need, h.get? p.1 = some p.2) → St i h) : Src prog w A I need n P It where
  item := fun {h₀ L m s led i o Q E} hi F N hI hit hn hQ => by
    refine W.item i s Q E hi (hin i _ o (N _ hI).1 hit fun p hp => (N p (hn p hp)).1) fun v h' tk hP st' hk => ?_
    obtain ⟨o', e', hit'⟩ := hout _ _ st'
    have hk' : ∀ b y, b ≠ I → s.heap.get? b = some y → h'.get? b = some y := fun b y hb e => hk b y (fun z => hb (List.mem_singleton.mp z)) e
    exact hQ v h' tk o' hP hit' (fr_change F N hI hk') (news_change N hI hk' e')
  done := fun {h₀ L m s led o Q E} F N hI hit hn hQ => by
    refine W.done s Q E (hin n _ o (N _ hI).1 hit fun p hp => (N p (hn p hp)).1) fun h' tk hk => ?_
    have hk' : ∀ b y, b ≠ I → s.heap.get? b = some y → h'.get? b = some y := fun b y hb e => hk b y (fun z => hb (List.mem_singleton.mp z)) e
    refine hQ h' tk (fr_change F N hI hk') fun p hp => ?_
    obtain ⟨q1, q2⟩ := List.mem_filter.mp hp
    have hne : p.1 ≠ I := by simpa using q2
    exact ⟨hk' _ _ hne (N p q1).1, (N p q1).2⟩
noncomputable def FStep (Ok : Shared → Prop) (h₀ : Heap) (L I : Addr) (need : Led) (It : Obj → Prop) (J : (Str → Option Value) → Led → Prop) (R : Result → Shared → Prop) (f : Flow) (s₂ : Shared) : Prop := match f with
  | .ret v => R (.ok (.ret v)) s₂
  | .brk => R (.ok .next) s₂
  | _ => ∃ m₂ led₂ o₂, Ok s₂ ∧ Fr h₀ L s₂.heap m₂ ∧ News h₀ L s₂.heap led₂ ∧ (I, o₂) ∈ led₂ ∧ It o₂ ∧ (∀ p ∈ need, p ∈ led₂) ∧ J m₂ led₂
section
variable {prog : Program} {w : World} {A : Around} {s : Shared} {env : Env} {h₀ : Heap}
theorem forLoop_src {R : Result → Shared → Prop} {x : Str} {px : Pos} {body : List Stmt} {Ok : Shared → Prop} {I : Addr} {need : Led} {n : Nat} {P : Nat → Value → Prop} {It : Nat → Obj → Prop} {m : Str → Option Value} {led : Led} {o : Obj} (J : Nat → (Str → Option Value) → Led → Prop)
    (S : Src prog w A I need n P It) (hx : env.kindOf x = some .local) (hp : (env.scope.kind == .class || (env.scope.kind == .module && env.locals != env.globals)) = false)
    (hgo : ∀ s₁ h tk, Ok s₁ → Ok { s₁ with heap := h, toks := tk }) (hs : Ok s) (F : Fr h₀ env.locals s.heap m) (N : News h₀ env.locals s.heap led) (hI : (I, o) ∈ led) (h0 : It 0 o) (hn : ∀ p ∈ need, p ∈ led) (hJ : J 0 m led)
    (hne : ∀ p ∈ need, p.1 ≠ I)
    (stable : ∀ i m₁ led₁ led₂ o₁ h, News h₀ env.locals h led₁ → (I, o₁) ∈ led₁ → It i o₁ → Keeps1 I led₁ led₂ → J i m₁ led₁ → J i m₁ led₂)
    (step : ∀ i v m₁ led₁ s₁ o₁, Ok s₁ → i < n → P i v → (I, o₁) ∈ led₁ → It (i + 1) o₁ → (∀ p ∈ need, p ∈ led₁) → J i m₁ led₁ → Fr h₀ env.locals s₁.heap (fun y => if y = x then some v else m₁ y) → News h₀ env.locals s₁.heap led₁ →
      wpAny (model prog w) A (execs body env) (FStep Ok h₀ env.locals I need (It (i + 1)) (J (i + 1)) R) No s₁)
    (done : ∀ m₁ led₁ s₁, Ok s₁ → (∀ p ∈ need, p ∈ led₁) → J n m₁ led₁ → Fr h₀ env.locals s₁.heap m₁ → News h₀ env.locals s₁.heap led₁ → R (.ok .next) s₁) :
    codeAny (model prog w) A (.forLoop (.Name x px) (.ref I) body [] env) R s := by
  refine codeAny_forLoop (fun k s' => ∃ m' led' o' i, Ok s' ∧ Fr h₀ env.locals s'.heap m' ∧ News h₀ env.locals s'.heap led' ∧ (I, o') ∈ led' ∧ It i o' ∧ (∀ p ∈ need, p ∈ led') ∧ J i m' led' ∧ i ≤ n ∧ k = n + 1 - i) ?_ (n + 1)
    ⟨m, led, o, 0, hs, F, N, hI, h0, hn, hJ, Nat.zero_le _, rfl⟩
  rintro k s' ⟨m', led', o', i, hs', F', N', hI', hit', hn', hJ', hi, rfl⟩
  by_cases hlt : i < n
  · refine S.item hlt F' N' hI' hit' hn' fun v h₁ tk₁ o₁ hP hit₁ F₁ N₁ => ?_
    refine wpAny_assign_Name (wpAny_storeName_local hx F₁.ns (fun h₂ hn₂ hs₂ => ?_) hp)
    have F₂ := F₁.set hn₂ hs₂
    have N₂ := N₁.set hs₂
    have J₂ := stable i m' led' (upd I o₁ led') o' _ N' hI' hit' keeps_upd hJ'
    refine wpAny_mono (step i v m' _ { s' with heap := h₂, toks := tk₁ + 1 } o₁ (hgo _ _ _ hs') hlt hP upd_self hit₁ (fun p hp => upd_other (hn' p hp) (hne p hp)) J₂ F₂ N₂) (fun f s₃ h₃ => ?_) fun _ _ (e : False) => e.elim
    cases f with
    | ret v => exact h₃
    | brk => exact h₃
    | next =>
      obtain ⟨m₂, led₂, o₂, a1, a2, a3, a4, a5, a6, a7⟩ := h₃
      exact ⟨n + 1 - (i + 1), by omega, m₂, led₂, o₂, i + 1, a1, a2, a3, a4, a5, a6, a7, hlt, rfl⟩
    | cont =>
      obtain ⟨m₂, led₂, o₂, a1, a2, a3, a4, a5, a6, a7⟩ := h₃
      exact ⟨n + 1 - (i + 1), by omega, m₂, led₂, o₂, i + 1, a1, a2, a3, a4, a5, a6, a7, hlt, rfl⟩
  · have hin : i = n := by omega
    subst hin
    refine S.done F' N' hI' hit' hn' fun h₁ tk₁ F₁ N₁ => wpAny_execs_nil ?_
    have hk : Keeps1 I led' (led'.filter (fun p => p.1 != I)) := fun p hp hne => List.mem_filter.mpr ⟨hp, by simpa using hne⟩
    exact done m' _ _ (hgo _ _ _ hs') (fun p hp => hk p (hn' p hp) (hne p hp)) (stable i m' led' _ o' _ N' hI' hit' hk hJ') F₁ N₁
noncomputable def WStep (Ok : Shared → Prop) (h₀ : Heap) (L : Addr) (J : Nat → (Str → Option Value) → Led → Prop) (n : Nat) (Q : Flow → Shared → Prop) (f : Flow) (s₃ : Shared) : Prop := match f with
  | .ret v => Q (.ret v) s₃
  | .brk => Q .next s₃
  | _ => ∃ m₂ led₂ n', Ok s₃ ∧ Fr h₀ L s₃.heap m₂ ∧ News h₀ L s₃.heap led₂ ∧ n' < n ∧ J n' m₂ led₂
theorem while_led {E : Value → Shared → Prop} {Q : Flow → Shared → Prop} {test : Expr} {body : List Stmt} {pos : Pos} {Ok : Shared → Prop} {m : Str → Option Value} {led : Led} (J : Nat → (Str → Option Value) → Led → Prop) {n₀ : Nat} {L : Addr}
    (hs : Ok s) (F : Fr h₀ L s.heap m) (N : News h₀ L s.heap led) (hJ : J n₀ m led)
    (turn : ∀ n m₁ led₁ s₁, Ok s₁ → Fr h₀ L s₁.heap m₁ → News h₀ L s₁.heap led₁ → J n m₁ led₁ →
      wpAny (model prog w) A (isTrue test env (eval test env)) (fun b s₂ => if b = true then wpAny (model prog w) A (execs body env) (WStep Ok h₀ L J n Q) No s₂ else Q .next s₂) No s₁) :
    wpAny (model prog w) A (exec (.While test body [] pos) env) Q E s := by
  refine wpAny_While (codeAny_whileLoop (fun n s' => ∃ m₁ led₁, Ok s' ∧ Fr h₀ L s'.heap m₁ ∧ News h₀ L s'.heap led₁ ∧ J n m₁ led₁) ?_ n₀ ⟨m, led, hs, F, N, hJ⟩)
  rintro n s' ⟨m₁, led₁, hs₁, F₁, N₁, J₁⟩
  refine wpAny_mono (turn n m₁ led₁ s' hs₁ F₁ N₁ J₁) (fun b s₂ h₂ => ?_) fun _ _ (e : False) => e.elim
  cases b with
  | false =>
    simp only [Bool.false_eq_true, if_false] at h₂ ⊢
    exact wpAny_execs_nil h₂
  | true =>
    simp only [if_true] at h₂ ⊢
    refine wpAny_mono h₂ (fun f s₃ h₃ => ?_) fun _ _ (e : False) => e.elim
    cases f with
    | ret v => exact h₃
    | brk => exact h₃
    | next =>
      obtain ⟨m₂, led₂, n', a1, a2, a3, a4, a5⟩ := h₃
      exact ⟨n', a4, m₂, led₂, a1, a2, a3, a5⟩
    | cont =>
      obtain ⟨m₂, led₂, n', a1, a2, a3, a4, a5⟩ := h₃
      exact ⟨n', a4, m₂, led₂, a1, a2, a3, a5⟩
end
/-- iterators by their objects -/
noncomputable abbrev isListIt (ax : Addr) (i : Nat) (o : Obj) : Prop := o.cls = .type "list_iterator" ∧ o.data = .fields #[.ref ax, .int i 0]
theorem srcAcc {prog : Program} {w : World} {A : Around} (hh : A.handled = none) {I ax d : Addr} (hne : ax ≠ I) (vs : List Value) (n : Nat) :
    Src prog w A I [(ax, accO d vs n)] vs.length (fun i v => vs[i]? = some v) (isListIt ax) :=
  .ofWalks (accWalks hh I ax d hne vs n) (fun i h st => let ⟨o, e, r⟩ := st.1; ⟨o, e, r⟩) fun i h o e hit hn => ⟨⟨o, e, hit⟩, hn _ (List.mem_singleton.mpr rfl)⟩
theorem srcList {prog : Program} {w : World} {A : Around} (hh : A.handled = none) {I ax : Addr} (hne : ax ≠ I) (its : Array Value) (k : Nat) :
    Src prog w A I [(ax, listOf its k)] its.size (fun i v => its[i]? = some v) (isListIt ax) :=
  .ofWalks (Walks.list hh I ax hne its) (fun i h st => let ⟨o, e, r⟩ := st.1; ⟨o, e, r⟩) fun i h o e hit hn => ⟨⟨o, e, hit⟩, ⟨_, hn _ (List.mem_singleton.mpr rfl), rfl, _, rfl⟩⟩
noncomputable abbrev isStrIt (x : Str) (t : Tok) (i : Nat) (o : Obj) : Prop := o.cls = .type "str_ascii_iterator" ∧ o.data = .fields #[.str x t, .int i 0]
theorem srcStr {prog : Program} {w : World} {A : Around} (hh : A.handled = none) {I : Addr} (x : Str) (t : Tok) :
    Src prog w A I [] x.cps.size (SignAt x) (isStrIt x t) :=
  .ofWalks (Walks.strAscii hh I x t) (fun i h st => let ⟨o, e, r⟩ := st; ⟨o, e, r⟩) fun i h o e hit hn => ⟨o, e, hit⟩
end
theorem off_D1 : True := by
  w_top off
  trivial
section
set_option maxHeartbeats 1000000
noncomputable def subV (x y : Str) : Int := if x = y then 0 else if Txt.lower x = Txt.lower y then 1 else 2
theorem sub_spec {w : World} {led : Led} (x y : Str) (t1 t2 : Tok) (h1 : x.length ≤ 1) (h2 : y.length ≤ 1) :
    Spec w 21 5 20 [.str x t1, .str y t2] led (fun v led' => (∃ t, v = .int (subV x y) t) ∧ ∀ p ∈ led, p ∈ led') := by
  intro mean mg mb dp un gd cn cs' a ccd cl outer A₀ base h₀ L m s Q E B F X N T hk hdp hu ret
  walk_at "my enter"
  walk_at "my steps"
  all_goals
    rename Fr h₀ L _ _ => kF
    rename News h₀ L _ _ => kN
    refine ret _ _ _ _ kF kN ⟨?_, fun p hp => hp⟩
  · exact ⟨_, by rw [show subV x y = 0 by simp_all [subV]]⟩
  · exact ⟨_, by rw [show subV x y = 1 by simp_all [subV]]⟩
  · exact ⟨_, by rw [show subV x y = 2 by simp_all [subV]]⟩
noncomputable def mate (c : Nat) : Nat := if c = 97 then 65 else if c = 65 then 97 else if c = 98 then 66 else 98
noncomputable abbrev matePairs (v1 v2 v3 v4 : Value) : List (Str × Value) := [(Str.ofString "a", v1), (Str.ofString "A", v2), (Str.ofString "b", v3), (Str.ofString "B", v4)]
theorem mate_a (v1 v2 v3 v4 : Value) : valueAt (matePairs v1 v2 v3 v4) (sg 97) = some v1 := by kernel_rfl
theorem mate_A (v1 v2 v3 v4 : Value) : valueAt (matePairs v1 v2 v3 v4) (sg 65) = some v2 := by kernel_rfl
theorem mate_b (v1 v2 v3 v4 : Value) : valueAt (matePairs v1 v2 v3 v4) (sg 98) = some v3 := by kernel_rfl
theorem mate_B (v1 v2 v3 v4 : Value) : valueAt (matePairs v1 v2 v3 v4) (sg 66) = some v4 := by kernel_rfl
theorem mate_all (v1 v2 v3 v4 : Value) {c : Nat} (hc : c = 97 ∨ c = 65 ∨ c = 98 ∨ c = 66) : valueAt (matePairs v1 v2 v3 v4) (sg c) = some (if c = 97 then v1 else if c = 65 then v2 else if c = 98 then v3 else v4) := by
  rcases hc with rfl | rfl | rfl | rfl
  · exact mate_a ..
  · exact mate_A ..
  · exact mate_b ..
  · exact mate_B ..
theorem mate_str {c : Nat} (hc : c = 97 ∨ c = 65 ∨ c = 98 ∨ c = 66) (t1 t2 t3 t4 : Tok) : ∃ t, (if c = 97 then Value.str (Str.ofString "A") t1 else if c = 65 then .str (Str.ofString "a") t2 else if c = 98 then .str (Str.ofString "B") t3 else .str (Str.ofString "b") t4) = .str (sg (mate c)) t := by
  rcases hc with rfl | rfl | rfl | rfl
  · exact ⟨t1, by kernel_rfl⟩
  · exact ⟨t2, by kernel_rfl⟩
  · exact ⟨t3, by kernel_rfl⟩
  · exact ⟨t4, by kernel_rfl⟩
theorem mate_spec {w : World} {led : Led} {t : Tok} {c : Nat} (hc : c = 97 ∨ c = 65 ∨ c = 98 ∨ c = 66) :
    Spec w 175 5 20 [.str (sg c) t] led (fun v led' => (∃ t, v = .str (sg (mate c)) t) ∧ ∀ p ∈ led, p ∈ led') := by
  intro mean mg mb dp un gd cn cs' a ccd cl outer A₀ base h₀ L m s Q E B F X N T hk hdp hu ret
  walk_at "my enter"
  iterate 21 (first | (k_unfold; (try dsimp only)) | walk1 | (dsimp only; walk1))
  rename Obj.IsDictOf _ _ _ => hD
  rename News _ _ _ (_ :: led) => N2
  refine wpAny_getItem_of (knd := PySem.strKind PR w) (strKind_is PR w (sg c) t) (Heap.DictOf.mapOf (Heap.dictOf_iff.mpr ⟨_, (N2 _ List.mem_cons_self).1, hD⟩)) (mate_all _ _ _ _ hc) ?_
  (try dsimp only)
  walk_at "my steps"
  rename Fr h₀ L _ _ => kF
  rename News h₀ L _ _ => kN
  exact ret _ _ _ _ kF kN ⟨mate_str hc _ _ _ _, fun p hp => List.mem_cons_of_mem _ hp⟩
end
theorem off_D2 : True := by
  w_top off
  trivial
section
set_option maxHeartbeats 1000000
/-- a plain list in the ledger -/
noncomputable def ListAt (led : Led) (l : Addr) (its : Array Value) : Prop := ∃ o, (l, o) ∈ led ∧ o.cls = .type "list" ∧ ∃ n, o.data = .seq its n
theorem ListAt.isList {h₀ h : Heap} {L l : Addr} {led : Led} {its : Array Value} (H : ListAt led l its) (N : News h₀ L h led) : h.IsList l its :=
  let ⟨o, hm, hc, hd9⟩ := H; ⟨o, (N _ hm).1, hc, hd9⟩
theorem ListAt.of {led : Led} {l : Addr} {its : Array Value} {n : Nat} (h : (l, listOf its n) ∈ led) : ListAt led l its := ⟨_, h, rfl, _, rfl⟩
theorem ListAt.mono {led led' : Led} {l : Addr} {its : Array Value} (H : ListAt led l its) (hs : ∀ p ∈ led, p ∈ led') : ListAt led' l its := let ⟨o, hm, r⟩ := H; ⟨o, hs _ hm, r⟩
theorem ListAt.but {h₀ h : Heap} {L P l : Addr} {led led' : Led} {o : Obj} {its : Array Value} (H : ListAt led l its) (N : News h₀ L h led) (hP : (P, o) ∈ led) (hc : o.cls ≠ .type "list") (K : Keeps1 P led led') : ListAt led' l its :=
  let ⟨ol, hm, h1, h2⟩ := H; ⟨ol, K _ hm (News.ne N hm hP (by rw [h1]; exact fun e => hc e.symm)), h1, h2⟩
section
variable {prog : Program} {w : World} {A : Around} {E : Value → Shared → Prop} {s : Shared} {h₀ : Heap} {L l : Addr} {m : Str → Option Value} {led : Led} {its : Array Value}
theorem set_listAt {k : Nat} {t : Tok} {v : Value} {Q : Unit → Shared → Prop} (F : Fr h₀ L s.heap m) (N : News h₀ L s.heap led) (H : ListAt led l its) (hk : k < its.size) (hfit : k < 1000)
    (h : ∀ h' led', Fr h₀ L h' m → News h₀ L h' led' → ListAt led' l (its.setIfInBounds k v) → Keeps1 l led led' → Q () { s with heap := h' }) :
    wpAny (model prog w) A (setItem (.ref l) (.int k t) v) Q E s := by
  obtain ⟨o, hm, hc, hd9⟩ := id H
  refine wpAny_setItem_list (H.isList N) (by omega) (by omega) (by omega) fun h' hl hs => ?_
  obtain ⟨o', e', r⟩ := hl
  have hk' : ∀ b y, b ≠ l → s.heap.get? b = some y → h'.get? b = some y := fun b y hb e => hs.extBut b y hb e
  exact h h' (upd l o' led) (fr_change F N hm hk') (news_change N hm hk' e') ⟨o', upd_self, r⟩ keeps_upd
end
theorem floordiv_spec {w : World} {led : Led} (x y : Int) (hy : y ≠ 0) (hy2 : y.natAbs < 1073741824) (t1 t2 : Tok) :
    Spec w 112 5 20 [.int x t1, .int y t2] led (fun v led' => (∃ t, v = .int (x.fdiv y) t) ∧ ∀ p ∈ led, p ∈ led') := by
  intro mean mg mb dp un gd cn cs' a ccd cl outer A₀ base h₀ L m s Q E B F X N T hk hdp hu ret
  walk_at "my enter"
  walk_at "my steps"
  rename Fr h₀ L _ _ => kF
  rename News h₀ L _ _ => kN
  exact ret _ _ _ _ kF kN ⟨⟨_, rfl⟩, fun p hp => hp⟩
theorem contains_spec {w : World} {led : Led} {l : Addr} {bs : List Bool} (H : ListAt led l (bs.map Value.bool).toArray) :
    Spec w 119 5 20 [.ref l, .bool true] led (fun v led' => v = .bool (bs.any id) ∧ ∀ p ∈ led, p ∈ led') := by
  intro mean mg mb dp un gd cn cs' a ccd cl outer A₀ base h₀ L m s Q E B F X N T hk hdp hu ret
  walk_at "my enter"
  walk_at "my steps"
  rename News _ _ _ led => N1
  refine PySem.SeqAt.in_listAt (fun y => match y with | .bool b => b == true | _ => false) (H.isList N1) (fun y hy => ?_) ?_
  · obtain ⟨b, hb, rfl⟩ := List.mem_map.mp (List.mem_toArray.mp hy)
    exact PySem.SeqAt.EqAt.bool_bool b true
  · have e : ((bs.map Value.bool).toArray.any fun y => match y with | .bool b => b == true | _ => false) = bs.any id := by
      simp [List.any_map, Function.comp_def]
      rfl
    rw [e]
    (try dsimp only)
    dsimp only [qk]
    walk_at "my leave"
    rename Fr h₀ L _ _ => kF
    rename News h₀ L _ _ => kN
    exact ret _ _ _ _ kF kN ⟨rfl, fun p hp => hp⟩
theorem getitem_spec {w : World} {led : Led} {its : Array Value} {l : Addr} {k : Nat} {t : Tok} {v : Value} (H : ListAt led l its) (hv : its[k]? = some v) (hfit : k < 1000) :
    Spec w 126 5 20 [.ref l, .int k t] led (fun v' led' => v' = v ∧ ∀ p ∈ led, p ∈ led') := by
  intro mean mg mb dp un gd cn cs' a ccd cl outer A₀ base h₀ L m s Q E B F X N T hk hdp hu ret
  walk_at "my enter"
  walk_at "my steps"
  rename News _ _ _ led => N1
  refine item_list (H.isList N1) (by omega) (by omega) (by simpa using hv) ?_ (by with_unfolding_all rfl) (by intro _; with_unfolding_all rfl)
  (try dsimp only)
  dsimp only [qk]
  walk_at "my leave"
  rename Fr h₀ L _ _ => kF
  rename News h₀ L _ _ => kN
  exact ret _ _ _ _ kF kN ⟨rfl, fun p hp => hp⟩
theorem setitem_spec {w : World} {led : Led} {its : Array Value} {l : Addr} {k : Nat} {t : Tok} {v : Value} (H : ListAt led l its) (hk9 : k < its.size) (hfit : k < 1000) :
    Spec w 140 5 20 [.ref l, .int k t, v] led (fun v' led' => v' = .none ∧ ListAt led' l (its.setIfInBounds k v) ∧ Keeps1 l led led') := by
  intro mean mg mb dp un gd cn cs' a ccd cl outer A₀ base h₀ L m s Q E B F X N T hk hdp hu ret
  walk_at "my enter"
  walk_at "my steps"
  rename News _ _ _ led => N1
  rename Fr _ _ _ (fun y => List.lookup y _) => F1
  refine set_listAt F1 N1 H hk9 hfit fun h5 led5 F5 N5 H5 K5 => ?_
  (try dsimp only)
  walk_at "my steps"
  rename Fr h₀ L _ _ => kF
  rename News h₀ L _ _ => kN
  exact ret _ _ _ _ kF kN ⟨rfl, H5, K5⟩
end
section
set_option maxHeartbeats 1000000
noncomputable def now (h : Heap) (bs : List Addr) : Led := bs.map fun b => (b, (h.get? b).getD (tabObj #[]))
theorem now_mem {h : Heap} {bs : List Addr} {p : Addr × Obj} (hp : p ∈ now h bs) (he : ∀ b ∈ bs, ∃ o, h.get? b = some o) : p.1 ∈ bs ∧ h.get? p.1 = some p.2 := by
  obtain ⟨b, hb, rfl⟩ := List.mem_map.mp hp
  obtain ⟨o, e⟩ := he b hb
  exact ⟨hb, by rw [e]; rfl⟩
theorem mem_now {h : Heap} {bs : List Addr} {b : Addr} {o : Obj} (hb : b ∈ bs) (e : h.get? b = some o) : (b, o) ∈ now h bs := List.mem_map.mpr ⟨b, hb, by rw [e]; rfl⟩
noncomputable def F2Step (Ok : Shared → Prop) (h₀ : Heap) (L : Addr) (fp : List Addr) (led₁ : Led) (J : (Str → Option Value) → Led → Prop) (R : Result → Shared → Prop) (f : Flow) (s₂ : Shared) : Prop := match f with
  | .ret v => R (.ok (.ret v)) s₂
  | .brk => R (.ok .next) s₂
  | _ => ∃ m₂ led₂, Ok s₂ ∧ Fr h₀ L s₂.heap m₂ ∧ News h₀ L s₂.heap led₂ ∧ (∀ p ∈ led₁, p.1 ∈ fp → p ∈ led₂) ∧ J m₂ led₂
section
variable {prog : Program} {w : World} {A : Around} {s : Shared} {env : Env} {h₀ : Heap}
theorem forLoop_two {R : Result → Shared → Prop} {xa xb : Str} {pa pb pt : Pos} {kt : Nat} {body orelse : List Stmt} {Ok : Shared → Prop} {I : Addr} {fp wr : List Addr} {n : Nat} {Pt : Nat → Array Value → Prop} {St : Nat → Heap → Prop} {Mid : Nat → Addr → Heap → Prop} {m : Str → Option Value} {led : Led} (J : Nat → (Str → Option Value) → Led → Prop)
    (hh : A.handled = none) (W : WalksU prog w A I fp wr n Pt St Mid) (hsz : ∀ i vals, Pt i vals → ∃ va vb, vals = #[va, vb]) (hxa : env.kindOf xa = some .local) (hxb : env.kindOf xb = some .local) (hp : (env.scope.kind == .class || (env.scope.kind == .module && env.locals != env.globals)) = false)
    (hgo : ∀ s₁ h tk, Ok s₁ → Ok { s₁ with heap := h, toks := tk }) (hs : Ok s) (F : Fr h₀ env.locals s.heap m) (N : News h₀ env.locals s.heap led) (hst : St 0 s.heap) (hfp : ∀ b ∈ fp, ∃ o, (b, o) ∈ led) (hwr : ∀ i h, St i h → ∀ b ∈ wr, ∃ o, h.get? b = some o) (hJ : J 0 m led)
    (stable : ∀ i m₁ led₁ led₂ h, News h₀ env.locals h led₁ → St i h → (∀ p ∈ led₁, p.1 ∉ wr → p ∈ led₂) → J i m₁ led₁ → J i m₁ led₂)
    (step : ∀ i va vb m₁ led₁ s₁, Ok s₁ → i < n → Pt i #[va, vb] → J i m₁ led₁ → Fr h₀ env.locals s₁.heap (fun y => if y = xb then some vb else if y = xa then some va else m₁ y) → News h₀ env.locals s₁.heap led₁ → St (i + 1) s₁.heap →
      wpAny (model prog w) A (execs body env) (F2Step Ok h₀ env.locals fp led₁ (J (i + 1)) R) No s₁)
    (done : ∀ m₁ led₁ s₁, Ok s₁ → J n m₁ led₁ → Fr h₀ env.locals s₁.heap m₁ → News h₀ env.locals s₁.heap led₁ → wpAny (model prog w) A (execs orelse env) (fun f s₃ => R (.ok f) s₃) No s₁) :
    codeAny (model prog w) A (.forLoop (.Tuple [.Name xa pa, .Name xb pb] kt pt) (.ref I) body orelse env) R s := by
  refine codeAny_forLoop_any (fun k s' => ∃ m' led' i, Ok s' ∧ Fr h₀ env.locals s'.heap m' ∧ News h₀ env.locals s'.heap led' ∧ St i s'.heap ∧ (∀ b ∈ fp, ∃ o, (b, o) ∈ led') ∧ J i m' led' ∧ i ≤ n ∧ k = n + 1 - i) ?_ (n + 1)
    ⟨m, led, 0, hs, F, N, hst, hfp, hJ, Nat.zero_le _, rfl⟩
  rintro k s' ⟨m', led', i, hs', F', N', hst', hfp', hJ', hi, rfl⟩
  have hLw : env.locals ∉ wr := fun hm => by obtain ⟨o, hb⟩ := hfp' _ (W.sub _ hm); exact (N' _ hb).2.1 rfl
  have hbw : ∀ b o, h₀.get? b = some o → b ∉ wr := fun b o e hm => by obtain ⟨o', hb⟩ := hfp' _ (W.sub _ hm); have := (N' _ hb).2.2; rw [show h₀.get? b = none from this] at e; cases e
  by_cases hlt : i < n
  · refine W.item i s' _ _ hlt hst' fun T vals h₁ tk₁ hPv hT₁ hmid hk₁ => ?_
    obtain ⟨va, vb, rfl⟩ := hsz i vals hPv
    refine W.go _ _ _ i T _ _ _ hmid fun h₁' hst₁ hk₁' => ?_
    replace hk₁' : ∀ b o, b ∉ wr → h₁.get? b = some o → h₁'.get? b = some o := hk₁'
    have hT₁' : h₁'.IsTuple T #[va, vb] := let ⟨o, e, r⟩ := hT₁; ⟨o, hk₁' _ o (W.apart i T _ hmid) e, r⟩
    have up : ∀ b o, b ∉ wr → s'.heap.get? b = some o → h₁'.get? b = some o := fun b o hb e => hk₁' b o hb (hk₁ b o hb e)
    refine wpAny_assign_Tuple hh hT₁' rfl rfl fun h₁'' hx₁ => ?_
    replace hx₁ : Heap.ExtBut h₁'.objs.size h₁' h₁'' := hx₁
    have up' : ∀ b o, h₁'.get? b = some o → h₁''.get? b = some o := fun b o e => hx₁ b o (Nat.ne_of_lt (Heap.lt_size e)) e
    have F₁ : Fr h₀ env.locals h₁'' m' := ⟨F'.ns.at fun o e => up' _ o (up _ o hLw e), fun b o e => up' b o (up b o (hbw b o e) (F'.keep b o e)), F'.above⟩
    show wpAny _ _ (do holding [vb] (assign (.Name xa pa) env va); do holding [] (assign (.Name xb pb) env vb); pure ()) _ _ _
    refine wpAny_bind (wpAny_holding (wpAny_assign_Name (wpAny_storeName_local hxa F₁.ns (fun h₂a hn₂a hs₂a => ?_) hp)))
    refine wpAny_bind (wpAny_holding (wpAny_assign_Name (wpAny_storeName_local hxb hn₂a (fun h₂ hn₂ hs₂ => wpAny_pure ?_) hp)))
    have F₂a := F₁.set hn₂a hs₂a
    have F₂ := F₂a.set hn₂ hs₂
    have hst₂ : St (i + 1) h₂ := W.frame _ _ _ hst₁ fun b hb o e => by
      have hbL : b ≠ env.locals := fun z => by obtain ⟨o', hb'⟩ := hfp' _ hb; exact (N' _ hb').2.1 z
      exact (hs₂.2 b hbL).trans ((hs₂a.2 b hbL).trans (up' b o e))
    have hex := hwr _ _ hst₂
    have off : ∀ b ∈ wr, b ≠ env.locals ∧ h₀.get? b = none := fun b hb => by obtain ⟨o', hb'⟩ := hfp' _ (W.sub _ hb); exact (N' _ hb').2
    have N₂ : News h₀ env.locals h₂ (now h₂ wr ++ led'.filter (fun p => !wr.contains p.1)) := fun p hp => by
      rcases List.mem_append.mp hp with hp | hp
      · obtain ⟨a1, a2⟩ := now_mem hp hex
        exact ⟨a2, off _ a1⟩
      · obtain ⟨q1, q2⟩ := List.mem_filter.mp hp
        have hne : p.1 ∉ wr := by simpa using q2
        exact ⟨(hs₂.2 _ (N' _ q1).2.1).trans ((hs₂a.2 _ (N' _ q1).2.1).trans (up' _ _ (up _ _ hne (N' _ q1).1))), (N' _ q1).2⟩
    have K₂ : ∀ p ∈ led', p.1 ∉ wr → p ∈ now h₂ wr ++ led'.filter (fun p => !wr.contains p.1) := fun p hp hne => List.mem_append.mpr (.inr (List.mem_filter.mpr ⟨hp, by simpa using hne⟩))
    have hfp₂ : ∀ b ∈ fp, ∃ o, (b, o) ∈ now h₂ wr ++ led'.filter (fun p => !wr.contains p.1) := fun b hb => by
      by_cases hw : b ∈ wr
      · obtain ⟨o, e⟩ := hex b hw
        exact ⟨o, List.mem_append.mpr (.inl (mem_now hw e))⟩
      · obtain ⟨o, hm⟩ := hfp' b hb
        exact ⟨o, K₂ _ hm hw⟩
    refine wpAny_mono (step i va vb m' _ { s' with heap := h₂, toks := tk₁ + 1 + 1 } (hgo s' h₂ _ hs') hlt hPv (stable i m' led' _ _ N' hst' K₂ hJ') F₂ N₂ hst₂) (fun f s₃ h₃ => ?_) fun _ _ (e : False) => e.elim
    have back : (∃ m₂ led₂, Ok s₃ ∧ Fr h₀ env.locals s₃.heap m₂ ∧ News h₀ env.locals s₃.heap led₂ ∧ (∀ p ∈ now h₂ wr ++ led'.filter (fun p => !wr.contains p.1), p.1 ∈ fp → p ∈ led₂) ∧ J (i + 1) m₂ led₂) →
        ∃ k, k < n + 1 - i ∧ ∃ m' led' i', Ok s₃ ∧ Fr h₀ env.locals s₃.heap m' ∧ News h₀ env.locals s₃.heap led' ∧ St i' s₃.heap ∧ (∀ b ∈ fp, ∃ o, (b, o) ∈ led') ∧ J i' m' led' ∧ i' ≤ n ∧ k = n + 1 - i' := by
      rintro ⟨m₂, led₂, a1, a2, a3, a4, a5⟩
      refine ⟨n + 1 - (i + 1), by omega, m₂, led₂, i + 1, a1, a2, a3, ?_, fun b hb => let ⟨o, hm⟩ := hfp₂ b hb; ⟨o, a4 _ hm hb⟩, a5, hlt, rfl⟩
      refine W.frame _ _ _ hst₂ fun b hb o e => ?_
      obtain ⟨o', hm⟩ := hfp₂ b hb
      have e1 := (N₂ _ hm).1
      rw [show h₂.get? b = some o from e] at e1
      cases e1
      exact (a3 _ (a4 _ hm hb)).1
    cases f with
    | ret v => exact h₃
    | brk => exact h₃
    | next => exact back h₃
    | cont => exact back h₃
  · have hin : i = n := by omega
    subst hin
    refine W.done s' _ _ hst' fun h₁ tk₁ hk₁ => ?_
    have F₁ : Fr h₀ env.locals h₁ m' := ⟨F'.ns.at fun o e => hk₁ _ o hLw e, fun b o e => hk₁ b o (hbw b o e) (F'.keep b o e), F'.above⟩
    have K₂ : ∀ p ∈ led', p.1 ∉ wr → p ∈ led'.filter (fun p => !wr.contains p.1) := fun p hp hne => List.mem_filter.mpr ⟨hp, by simpa using hne⟩
    have N₁ : News h₀ env.locals h₁ (led'.filter (fun p => !wr.contains p.1)) := fun p hp => by
      obtain ⟨q1, q2⟩ := List.mem_filter.mp hp
      have hne : p.1 ∉ wr := by simpa using q2
      exact ⟨hk₁ _ _ hne (N' _ q1).1, (N' _ q1).2⟩
    exact wpAny_mono (done m' _ { s' with heap := h₁, toks := tk₁ } (hgo _ h₁ tk₁ hs') (stable i m' led' _ _ N' hst' K₂ hJ') F₁ N₁) (fun _ _ h => h) fun _ _ (e : False) => e.elim
end
end
section
set_option maxHeartbeats 1000000
theorem fresh_led {h₀ h h' : Heap} {L b : Addr} {m : Str → Option Value} {o : Obj} (F : Fr h₀ L h m) (hb : h.objs.size ≤ b) (e : h'.get? b = some o) : h'.get? b = some o ∧ b ≠ L ∧ h₀.get? b = none := by
  refine ⟨e, fun z => ?_, ?_⟩
  · have := F.ns.lt
    rw [z] at hb
    exact Nat.lt_irrefl _ (Nat.lt_of_lt_of_le this hb)
  · cases e2 : h₀.get? b with
    | none => rfl
    | some o2 => exact absurd (Nat.lt_of_lt_of_le (Nat.lt_trans (Nat.lt_of_lt_of_le (Heap.lt_size e2) F.above) F.ns.lt) hb) (Nat.lt_irrefl _)
noncomputable abbrev isEn (o : Obj) : Prop := o.cls = .type "enumerate" ∨ o.cls = .type "list_iterator"
noncomputable def EStep (Ok : Shared → Prop) (h₀ : Heap) (L l : Addr) (led₁ : Led) (J : (Str → Option Value) → Led → Prop) (R : Result → Shared → Prop) (f : Flow) (s₂ : Shared) : Prop := match f with
  | .ret v => R (.ok (.ret v)) s₂
  | .brk => R (.ok .next) s₂
  | _ => ∃ m₂ led₂, Ok s₂ ∧ Fr h₀ L s₂.heap m₂ ∧ News h₀ L s₂.heap led₂ ∧ (∀ p ∈ led₁, isEn p.2 ∨ p.1 = l → p ∈ led₂) ∧ J m₂ led₂
section
variable {prog : Program} {w : World} {A : Around} {E : Value → Shared → Prop} {s : Shared} {env : Env} {h₀ : Heap} {m : Str → Option Value} {led : Led} {l : Addr} {its : Array Value}
theorem for_enum {R : Result → Shared → Prop} {xa xb : Str} {pa pb pt : Pos} {kt : Nat} {body orelse : List Stmt} {Ok : Shared → Prop} (J : Nat → (Str → Option Value) → Led → Prop)
    (F : Fr h₀ env.locals s.heap m) (N : News h₀ env.locals s.heap led) (H : ListAt led l its) (hh : A.handled = none) (hxa : env.kindOf xa = some .local) (hxb : env.kindOf xb = some .local) (hp : (env.scope.kind == .class || (env.scope.kind == .module && env.locals != env.globals)) = false)
    (hgo : ∀ s₁ h tk, Ok s₁ → Ok { s₁ with heap := h, toks := tk }) (hs : Ok s) (hJ : J 0 m led)
    (stable : ∀ i m₁ led₁ led₂, (∀ p ∈ led₁, (p.1 < s.heap.objs.size ∨ ¬ isEn p.2) → p ∈ led₂) → J i m₁ led₁ → J i m₁ led₂)
    (step : ∀ i t vb m₁ led₁ s₁, Ok s₁ → its[i]? = some vb → ListAt led₁ l its → J i m₁ led₁ → Fr h₀ env.locals s₁.heap (fun y => if y = xb then some vb else if y = xa then some (.int i t) else m₁ y) → News h₀ env.locals s₁.heap led₁ →
      wpAny (model prog w) A (execs body env) (EStep Ok h₀ env.locals l led₁ (J (i + 1)) R) No s₁)
    (done : ∀ m₁ led₁ s₁, Ok s₁ → J its.size m₁ led₁ → Fr h₀ env.locals s₁.heap m₁ → News h₀ env.locals s₁.heap led₁ → wpAny (model prog w) A (execs orelse env) (fun f s₃ => R (.ok f) s₃) No s₁) :
    wpAny (model prog w) A (call (.type "enumerate") [.ref l]) (fun x s₁ => wpAny (model prog w) A (pyIter x) (fun it s₂ => codeAny (model prog w) A (.forLoop (.Tuple [.Name xa pa, .Name xb pb] kt pt) it body orelse env) R s₂) E s₁) E s := by
  refine call_enumerate_list (H.isList N) fun h5 he5 hi5 hz5 hk5 => ?_
  obtain ⟨ol, hml, hcl, hdl⟩ := id H
  have hl0 := (N _ hml).1
  have hlt : l < s.heap.objs.size := Heap.lt_size hl0
  obtain ⟨oi, hoi, hci, hdi⟩ := id hi5
  have hei : s.heap.objs.size + 1 ≠ s.heap.objs.size := Nat.succ_ne_self _
  have W := (WalksT.enumerate (prog := prog) (w := w) hh (s.heap.objs.size + 1) s.heap.objs.size l hei (Nat.ne_of_lt (Nat.lt_succ_of_lt hlt)) (Nat.ne_of_lt hlt) its).toU
  have hst0 : (∃ old, IsEnum h5 (s.heap.objs.size + 1) s.heap.objs.size ((0 : Nat) : Int) old) ∧ h5.IsListIter s.heap.objs.size l 0 ∧ h5.IsList l its := ⟨⟨_, he5⟩, hi5, ⟨ol, hk5 _ _ hl0, hcl, hdl⟩⟩
  refine W.self 0 { s with heap := h5 } _ _ hst0 ?_
  have F5 : Fr h₀ env.locals h5 m := F.keeps hk5
  have N5 : News h₀ env.locals h5 ((s.heap.objs.size + 1, _) :: (s.heap.objs.size, oi) :: led) := fun p hp => by
    rcases List.mem_cons.mp hp with rfl | hp
    · exact fresh_led F (Nat.le_succ _) he5
    · rcases List.mem_cons.mp hp with rfl | hp
      · exact fresh_led F (Nat.le_refl _) hoi
      · exact ⟨hk5 _ _ (N p hp).1, (N p hp).2⟩
  refine forLoop_two (s := { s with heap := h5 }) (Ok := Ok) (St := fun i h => (∃ old, IsEnum h (s.heap.objs.size + 1) s.heap.objs.size (i : Int) old) ∧ h.IsListIter s.heap.objs.size l i ∧ h.IsList l its) (fun i m₁ led₁ => ListAt led₁ l its ∧ J i m₁ led₁) hh W
    (fun i vals hv => by obtain ⟨t, x, _, rfl⟩ := hv; exact ⟨_, _, rfl⟩) hxa hxb hp hgo (hgo s h5 s.toks hs) F5 N5 hst0 ?_ ?_ ⟨H.mono fun p hp => List.mem_cons_of_mem _ (List.mem_cons_of_mem _ hp), stable 0 m led _ (fun p hp _ => List.mem_cons_of_mem _ (List.mem_cons_of_mem _ hp)) hJ⟩ ?_ ?_ ?_
  · intro b hb
    rcases List.mem_cons.mp hb with rfl | hb
    · exact ⟨_, List.mem_cons_self⟩
    · rcases List.mem_cons.mp hb with rfl | hb
      · exact ⟨_, List.mem_cons_of_mem _ List.mem_cons_self⟩
      · rcases List.mem_cons.mp hb with rfl | hb
        · exact ⟨ol, List.mem_cons_of_mem _ (List.mem_cons_of_mem _ hml)⟩
        · cases hb
  · rintro i h ⟨⟨old, e1⟩, ⟨o2, e2, _⟩, _⟩ b hb
    rcases List.mem_cons.mp hb with rfl | hb
    · exact ⟨_, e1⟩
    · rcases List.mem_cons.mp hb with rfl | hb
      · exact ⟨_, e2⟩
      · cases hb
  · rintro i m₁ led₁ led₂ h N₁ ⟨⟨old, e1⟩, ⟨o2, e2, c2, _⟩, _⟩ hk ⟨hL, hJ₁⟩
    have key : ∀ p ∈ led₁, (p.1 < s.heap.objs.size ∨ ¬ isEn p.2) → p ∈ led₂ := fun p hp hn => hk p hp fun hm => by
      have e0 := (N₁ p hp).1
      rcases List.mem_cons.mp hm with z | hm
      · rcases hn with hn | hn
        · rw [z] at hn
          exact Nat.lt_irrefl _ (Nat.lt_of_le_of_lt (Nat.le_succ _) hn)
        · rw [z, e1] at e0
          exact hn (.inl (congrArg Obj.cls (Option.some.inj e0)).symm)
      · rcases List.mem_cons.mp hm with z | hm
        · rcases hn with hn | hn
          · rw [z] at hn
            exact Nat.lt_irrefl _ hn
          · rw [z, e2] at e0
            exact hn (.inr ((congrArg Obj.cls (Option.some.inj e0)).symm.trans c2))
        · cases hm
    obtain ⟨o3, hm3, hc3, hd3⟩ := hL
    exact ⟨⟨o3, key _ hm3 (.inr (by rw [isEn, hc3]; decide)), hc3, hd3⟩, stable i m₁ led₁ led₂ key hJ₁⟩
  · rintro i va vb m₁ led₁ s₁ hs₁ hi ⟨t, x, hx, e⟩ ⟨hL, hJ₁⟩ F₁ N₁ ⟨⟨old, e1⟩, ⟨o2, e2, c2, _⟩, _⟩
    have ea := congrArg (fun a : Array Value => a[0]?) e
    have eb := congrArg (fun a : Array Value => a[1]?) e
    simp at ea eb
    subst ea eb
    refine wpAny_mono (step i t vb m₁ led₁ s₁ hs₁ hx hL hJ₁ F₁ N₁) (fun f s₂ h₂ => ?_) fun _ _ e => e
    have back : (∃ m₂ led₂, Ok s₂ ∧ Fr h₀ env.locals s₂.heap m₂ ∧ News h₀ env.locals s₂.heap led₂ ∧ (∀ p ∈ led₁, isEn p.2 ∨ p.1 = l → p ∈ led₂) ∧ J (i + 1) m₂ led₂) →
        ∃ m₂ led₂, Ok s₂ ∧ Fr h₀ env.locals s₂.heap m₂ ∧ News h₀ env.locals s₂.heap led₂ ∧ (∀ p ∈ led₁, p.1 ∈ [s.heap.objs.size + 1, s.heap.objs.size, l] → p ∈ led₂) ∧ (ListAt led₂ l its ∧ J (i + 1) m₂ led₂) := by
      rintro ⟨m₂, led₂, a1, a2, a3, a4, a5⟩
      obtain ⟨o3, hm3, hc3, hd3⟩ := hL
      refine ⟨m₂, led₂, a1, a2, a3, fun p hp hm => ?_, ⟨o3, a4 _ hm3 (.inr rfl), hc3, hd3⟩, a5⟩
      have e0 := (N₁ p hp).1
      rcases List.mem_cons.mp hm with z | hm
      · rw [z, e1] at e0
        exact a4 p hp (.inl (.inl (congrArg Obj.cls (Option.some.inj e0)).symm))
      · rcases List.mem_cons.mp hm with z | hm
        · rw [z, e2] at e0
          exact a4 p hp (.inl (.inr ((congrArg Obj.cls (Option.some.inj e0)).symm.trans c2)))
        · rcases List.mem_cons.mp hm with z | hm
          · exact a4 p hp (.inr z)
          · cases hm
    cases f with
    | ret v => exact h₂
    | brk => exact h₂
    | next => exact back h₂
    | cont => exact back h₂
  · rintro m₁ led₁ s₁ hs₁ ⟨hL, hJ₁⟩ F₁ N₁
    exact done m₁ led₁ s₁ hs₁ hJ₁ F₁ N₁
end
end
theorem off_D5 : True := by
  w_top off
  trivial
section
set_option maxHeartbeats 1000000
/-- a frame's map where two names are bound anew -/
noncomputable abbrev two (xa xb : Str) (u v : Option Value) (m : Str → Option Value) : Str → Option Value := fun y => if y = xb then v else if y = xa then u else m y
noncomputable abbrev look (l : List (Str × Value)) : Str → Option Value := fun y => l.lookup y
theorem two_self {xa xb : Str} {m : Str → Option Value} : two xa xb (m xa) (m xb) m = m := by
  funext y
  by_cases h1 : y = xb
  · simp [two, h1]
  · by_cases h2 : y = xa
    · subst h2
      simp [two, h1]
    · simp [two, h1, h2]
theorem two_two {xa xb : Str} {u v u' v' : Option Value} {m : Str → Option Value} : two xa xb u' v' (two xa xb u v m) = two xa xb u' v' m := by
  funext y
  by_cases h1 : y = xb
  · simp [two, h1]
  · by_cases h2 : y = xa
    · simp [two, h2]
    · simp [two, h1, h2]
theorem fr_two {g h : Heap} {L : Addr} {xa xb : Str} {u v u' v' : Option Value} {m : Str → Option Value} (F : Fr g L h (fun y => if y = xb then v else if y = xa then u else two xa xb u' v' m y)) : Fr g L h (two xa xb u v m) := by
  have e := two_two (xa := xa) (xb := xb) (u := u') (v := v') (u' := u) (v' := v) (m := m)
  rw [← e]
  exact F
theorem findIdx_here {bs : List Bool} {i : Nat} (h : ∀ k, k < i → bs[k]? = some false) (hi : bs[i]? = some true) : bs.findIdx id = i := by
  induction bs generalizing i with
  | nil => simp at hi
  | cons b bs ih =>
    cases i with
    | zero => simp at hi; simp [hi, List.findIdx_cons]
    | succ i =>
      have h0 := h 0 (Nat.succ_pos _)
      simp at h0
      subst h0
      simp [List.findIdx_cons]
      exact ih (fun k hk => by have := h (k + 1) (by omega); simpa using this) (by simpa using hi)
theorem none_any {bs : List Bool} (h : ∀ k, k < bs.length → bs[k]? = some false) : bs.any id = false := by
  rw [List.any_eq_false]
  intro b hb
  obtain ⟨k, hk, rfl⟩ := List.getElem_of_mem hb
  have := h k hk
  simp [hk] at this
  simp [this]
theorem indexOf_spec {w : World} {led : Led} {l : Addr} {bs : List Bool} (H : ListAt led l (bs.map Value.bool).toArray) (hany : bs.any id = true) (hlen : bs.length < 900) :
    Spec w 133 5 20 [.ref l, .bool true] led (fun v led' => (∃ t, v = .int (bs.findIdx id : Nat) t) ∧ ∀ p ∈ led, p ∈ led') := by
  intro mean mg mb dp un gd cn cs' a ccd cl outer A₀ base h₀ L m s Q E B F X N T hk hdp hu ret
  walk_at "my enter"
  walk_at "my steps"
  refine wpAny_For ?_ (fun _ => rfl)
  walk_at "my steps"
  rename News _ _ _ led => N1
  rename Fr _ _ _ (fun y => List.lookup y _) => F1
  rename Top _ _ _ _ _ _ => T1
  rename (hd.heap_1 w.params).In _ => X1
  rename Below _ _ _ _ => B1
  have F3 : Fr _ _ _ (look [(Str.ofString "b", Value.bool true), (Str.ofString "a", Value.ref l)]) := F1
  clear F1
  refine for_enum (Ok := Still _) (fun i m₁ led₁ => (∀ k, k < i → bs[k]? = some false) ∧ (∃ u v, m₁ = two "i" "j" u v (look [(Str.ofString "b", Value.bool true), (Str.ofString "a", Value.ref l)])) ∧ ∀ p ∈ led, p ∈ led₁) F3 N1 H rfl rfl rfl rfl (fun _ _ _ => still_go _ _) ⟨_, _, rfl⟩ ⟨fun k hk => absurd hk (Nat.not_lt_zero _), ⟨_, _, two_self.symm⟩, fun p hp => hp⟩ ?_ ?_ ?_
  · rintro i m₁ led₁ led₂ hk ⟨h1, h2, h3⟩
    exact ⟨h1, h2, fun p hp => hk p (h3 p hp) (.inl (led_le N1 p hp))⟩
  · rintro i t vb m₁ led₁ s₁ ⟨h2, tk2, rfl⟩ hv hL ⟨hJ, ⟨u, v, rfl⟩, hK⟩ F2 N2
    have F4 : Fr _ _ h2 (two "i" "j" (some (.int i t)) (some vb) (look [(Str.ofString "b", Value.bool true), (Str.ofString "a", Value.ref l)])) := fr_two F2
    obtain ⟨b9, hb9, rfl⟩ : ∃ b9, bs[i]? = some b9 ∧ vb = .bool b9 := by
      simp at hv
      rcases hv with ⟨e1, e2⟩ | ⟨e1, e2⟩
      · exact ⟨_, e1, e2.symm⟩
      · exact ⟨_, e1, e2.symm⟩
    clear F2 F3 N1
    walk_at "my steps"
    · rename (b9 == true) = true => hb
      have e := findIdx_here hJ (show bs[i]? = some true by rw [hb9]; simpa using hb)
      dsimp only [EStep, qk]
      refine leaveK_ F4 N2 fun kF kN => ?_
      exact ret _ _ _ _ kF kN ⟨⟨_, by rw [e]⟩, hK⟩
    · rename (b9 == true) = false => hb
      have e : bs[i]? = some false := by rw [hb9]; simpa using hb
      refine ⟨_, _, ⟨_, _, rfl⟩, F4, N2, fun p hp _ => hp, fun k hk => ?_, ⟨_, _, rfl⟩, hK⟩
      rcases Nat.lt_succ_iff_lt_or_eq.mp hk with h | rfl
      · exact hJ k h
      · exact e
  · rintro m₁ led₁ s₁ hs ⟨hJ, _⟩ _ _
    have : (bs.map Value.bool).toArray.size = bs.length := by simp
    rw [this] at hJ
    rw [none_any hJ] at hany
    cases hany
end
local macro_rules | `(tactic| walk_at "my stop0") => `(tactic| ((fail_if_success (with_reducible show wpAny _ _ (call (Value.ref _) _) _ _ _)); (fail_if_success (with_reducible show wpAny _ _ (exec (Stmt.For _ _ _ _ _) _) _ _ _))))
local macro_rules | `(tactic| walk_at "my stop") => `(tactic| (walk_at "my stop0"; (fail_if_success (with_reducible show wpAny _ _ (exec (Stmt.While _ _ _ _) _) _ _ _))))
local macro_rules | `(tactic| walk_at "my upto") => `(tactic| repeat' (first | (walk_at "my cut") | (k_unfold; (try dsimp only)) | (walk_at "my stop"; walk1) | (walk_at "my stop"; dsimp only; walk_at "my stop"; walk1)))
local macro_rules | `(tactic| walk_at "eval Name") => `(tactic| (k_here; k_dflt (refine' ld ?k1 ?k2 ?_; (case k1 => k_asm); (case k2 => assumption); k_whole)))
section
set_option maxHeartbeats 1000000
noncomputable def IntsL (its : Array Value) (ms : List Nat) : Prop := its.size = ms.length ∧ ∀ i, i < ms.length → ∃ t, its[i]? = some (.int (ms.getD i 0 : Nat) t)
theorem rep_true (n : Nat) : List.foldl (fun x1 x2 => x1 ++ x2) #[] (List.replicate (if (#[Value.bool true] : Array Value).isEmpty = true then 0 else n) #[Value.bool true]) = ((List.replicate n true).map Value.bool).toArray := by
  rw [show (#[Value.bool true] : Array Value).isEmpty = false from rfl, if_neg Bool.false_ne_true, listMul_foldl]
  simp [lm_rep_flat_one]
noncomputable def cornIn (ms : List Nat) : Nat → List Bool → Nat → List Bool
  | 0, f, _ => f
  | k + 1, f, c => if f.getD c false = true then cornIn ms k (f.set c false) ((ms.getD c 0 + 1) % ms.length) else f
noncomputable def cornOut (ms : List Nat) : Nat → List Bool → Nat → Nat
  | 0, _, r => r
  | k + 1, f, r => if f.any id = true then cornOut ms k (cornIn ms ms.length f (f.findIdx id)) (r + 1) else r
/-- the corners of a sewing -/
noncomputable def corners (ms : List Nat) : Nat := cornOut ms ms.length (List.replicate ms.length true) 0
theorem count_set {f : List Bool} {c : Nat} (h : f.getD c false = true) : (f.set c false).count true + 1 = f.count true := by
  induction f generalizing c with
  | nil => simp at h
  | cons b f ih =>
    cases c with
    | zero => simp at h; subst h; simp
    | succ c =>
      have h' : f.getD c false = true := by simpa using h
      have := ih h'
      cases b <;> simp <;> omega
theorem count_cornIn (ms : List Nat) : ∀ (k : Nat) (f : List Bool) (c : Nat), (cornIn ms k f c).count true ≤ f.count true
  | 0, _, _ => Nat.le_refl _
  | k + 1, f, c => by
    unfold cornIn
    split
    · rename_i h
      have := count_set h
      have := count_cornIn ms k (f.set c false) ((ms.getD c 0 + 1) % ms.length)
      omega
    · exact Nat.le_refl _
theorem len_cornIn (ms : List Nat) : ∀ (k : Nat) (f : List Bool) (c : Nat), (cornIn ms k f c).length = f.length
  | 0, _, _ => rfl
  | k + 1, f, c => by
    unfold cornIn
    split
    · rw [len_cornIn ms k]; simp
    · rfl
theorem findIdx_true {f : List Bool} (h : f.any id = true) : f.getD (f.findIdx id) false = true ∧ f.findIdx id < f.length := by
  have h2 : f.findIdx id < f.length := List.findIdx_lt_length_of_exists (by simpa using h)
  have h3 := List.findIdx_getElem (w := h2)
  exact ⟨by simpa [List.getD_eq_getElem?_getD, h2] using h3, h2⟩
theorem cornIn_less (ms : List Nat) {f : List Bool} (h : f.any id = true) (hn : 0 < ms.length) : (cornIn ms ms.length f (f.findIdx id)).count true < f.count true := by
  obtain ⟨k, hk⟩ : ∃ k, ms.length = k + 1 := ⟨ms.length - 1, by omega⟩
  have h1 := (findIdx_true h).1
  rw [hk]
  unfold cornIn
  rw [if_pos h1]
  have := count_set h1
  have := count_cornIn ms k (f.set (f.findIdx id) false) ((ms.getD (f.findIdx id) 0 + 1) % ms.length)
  omega
theorem count_any {f : List Bool} (h : f.any id = false) : f.count true = 0 := by
  rw [List.count_eq_zero]
  intro hm
  rw [List.any_eq_false] at h
  exact h true hm rfl
theorem any_count {f : List Bool} (h : f.any id = true) : 0 < f.count true := by
  rw [List.count_pos_iff]
  obtain ⟨b, hb, e⟩ := List.any_eq_true.mp h
  cases b
  · cases e
  · exact hb
end
section
set_option maxHeartbeats 1000000
theorem cornIn_stop {ms : List Nat} {k : Nat} {f : List Bool} {c : Nat} (h : f.getD c false = false) : cornIn ms k f c = f := by
  cases k with
  | zero => rfl
  | succ k => unfold cornIn; rw [if_neg (by rw [h]; exact Bool.false_ne_true)]
theorem bools_get {f : List Bool} {c : Nat} (h : c < f.length) : (f.map Value.bool).toArray[c]? = some (.bool (f.getD c false)) := by
  simp [List.getD_eq_getElem?_getD, h]
theorem bools_set {f : List Bool} {c : Nat} : (f.map Value.bool).toArray.setIfInBounds c (.bool false) = ((f.set c false).map Value.bool).toArray := by
  simp [List.map_set]
theorem ex_int {v : Option Value} {x y : Int} {t : Tok} (e : x = y) (h : v = some (Value.int x t)) : ∃ t, v = some (Value.int y t) := ⟨t, e ▸ h⟩
theorem fmod_nat (x n : Nat) : ((x : Int) + 1).fmod (n : Int) = (((x + 1) % n : Nat) : Int) := by
  rw [Int.fmod_eq_emod_of_nonneg _ (Int.natCast_nonneg n), Int.natCast_emod]
  rfl
end
local macro_rules | `(tactic| walk_at "my enterC") => `(tactic| (refine wpAny_call ?_; k_dflt (refine' code_defC ?k1 ?k2 ?k3 ?k4 ?k5 ?kA ?kF ?kK ?k6 ?k7 ?k8 ?k9 ?kB ?kD ?_ ?c2 ?c3 ?c4; (case kA => exact rfl); (case kF => exact rfl); (case kK => assumption); (case k1 => k_asm); (case k2 => k_asm); (case k3 => k_asm); (case k4 => k_asm); (case k5 => k_asm); (case k6 => k_is); (case k7 => k_is); (case k8 => ktr_room); (case k9 => first | exact BindsTo.of_eq rfl | exact binds_K (by k_in) rfl (by k_is) rfl rfl rfl); (case kB => exact rfl); (case kD => decide +kernel); (case c2 => exact rfl); (case c3 => exact rfl); (case c4 => exact rfl); k_whole; intro g' L' h' tk' cells' FG' F' N' Y' B' X' T' l1; k_cells Y'; (try simp only [List.cons_append, List.nil_append] at N'); (try dsimp only); (try k_fold))))
section
set_option maxHeartbeats 1000000
noncomputable def GStep (Ok : Shared → Prop) (h₀ : Heap) (L : Addr) (ic : Value) (need led₁ : Led) (J : (Str → Option Value) → Led → Prop) (f : Flow) (s₂ : Shared) : Prop := match f with
  | .ret _ => False
  | .brk => False
  | _ => ∃ m₂ led₂, Ok s₂ ∧ Fr h₀ L s₂.heap m₂ ∧ News h₀ L s₂.heap led₂ ∧ (∀ p ∈ led₁, p.2.cls = ic → p ∈ led₂) ∧ (∀ p ∈ need, p ∈ led₂) ∧ J m₂ led₂
@[elab_as_elim]
theorem still_out {s : Shared} {M : Shared → Prop} {s₁ : Shared} (H : Still s s₁) (k : ∀ h tk, M { s with heap := h, toks := tk }) : M s₁ := by
  obtain ⟨h, tk, rfl⟩ := H
  exact k h tk
theorem acc_open {P : Prop} {led : Led} {r d : Addr} {cs : List Nat} (H : AccAt led r d cs) (k : ∀ vs n hsh t t' k, (r, accO d vs n) ∈ led → (d, szO hsh t t' k) ∈ led → Pieces led vs cs → P) : P := by
  obtain ⟨vs, n, hsh, t, t', k', h1, h2, h3⟩ := H.out
  exact k vs n hsh t t' k' h1 h2 h3
/-- the rest of a body behind a statement: what the statement's end asks, under a name -/
noncomputable def Cut (M : Model) (A : Around) (rest : List Stmt) (env : Env) (Q : Flow → Shared → Prop) (E : Value → Shared → Prop) (R : Flow → Shared → Prop) : Prop :=
  (∀ s₁, wpAny M A (execs rest env) Q E s₁ → R .next s₁) ∧ (∀ v s₁, Q (.ret v) s₁ → R (.ret v) s₁) ∧ (∀ s₁, Q .brk s₁ → R .brk s₁) ∧ ∀ s₁, Q .cont s₁ → R .cont s₁
theorem execs_cut {M : Model} {A : Around} {st : Stmt} {rest : List Stmt} {env : Env} {Q : Flow → Shared → Prop} {E : Value → Shared → Prop} {s : Shared} (h : ∀ R, Cut M A rest env Q E R → wpAny M A (exec st env) R E s) : wpAny M A (execs (st :: rest) env) Q E s :=
  wpAny_execs_cons (h _ ⟨fun _ h => h, fun _ _ h => h, fun _ h => h, fun _ h => h⟩)
theorem execs_cut2 {M : Model} {A : Around} {st : Stmt} {rest : List Stmt} {env : Env} {Q : Flow → Shared → Prop} {E : Value → Shared → Prop} {hp : Heap} {g : Array GenState} {d : Drawn} {k : Nat} {os : OsState}
    (h : ∀ tk R, Cut M A rest env Q E R → wpAny M A (exec st env) R E ⟨hp, g, d, tk, os⟩) : wpAny M A (execs (st :: rest) env) Q E ⟨hp, g, d, k, os⟩ :=
  execs_cut (h k)
theorem cut_next {M : Model} {A : Around} {rest : List Stmt} {env : Env} {Q : Flow → Shared → Prop} {E : Value → Shared → Prop} {R : Flow → Shared → Prop} {s₁ : Shared} (c : Cut M A rest env Q E R) (h : wpAny M A (execs rest env) Q E s₁) : R .next s₁ := c.1 _ h
theorem cut_ret {M : Model} {A : Around} {rest : List Stmt} {env : Env} {Q : Flow → Shared → Prop} {E : Value → Shared → Prop} {R : Flow → Shared → Prop} {s₁ : Shared} {v : Value} (c : Cut M A rest env Q E R) (h : Q (.ret v) s₁) : R (.ret v) s₁ := c.2.1 _ _ h
@[elab_as_elim]
theorem o_some {v : Value} {f : Tok → Value} {K : Prop} {M : Value → Prop} (H : (∃ t, v = f t) ∧ K) (k : ∀ t, K → M (f t)) : M v := by
  obtain ⟨⟨t, rfl⟩, h⟩ := H
  exact k t h
@[elab_as_elim]
theorem o_is {v a : Value} {K : Prop} {M : Value → Prop} (H : v = a ∧ K) (k : K → M a) : M v := by
  obtain ⟨rfl, h⟩ := H
  exact k h
@[elab_as_elim]
theorem o_ref3 {v : Value} {A : Addr → List Value → Nat → Prop} {M : Value → Prop} (H : ∃ b bw bk, v = .ref b ∧ A b bw bk) (k : ∀ b bw bk, A b bw bk → M (.ref b)) : M v := by
  obtain ⟨b, bw, bk, rfl, h⟩ := H
  exact k b bw bk h
section
variable {prog : Program} {w : World} {A : Around} {E : Value → Shared → Prop} {s : Shared} {env : Env} {h₀ : Heap} {m : Str → Option Value} {led : Led}
theorem for_go {R : Result → Shared → Prop} {x : Str} {px : Pos} {body : List Stmt} {Ok : Shared → Prop} {need : Led} {n : Nat} {P : Nat → Value → Prop} {It : Nat → Obj → Prop} {o : Obj} {ic : Value} (J : Nat → (Str → Option Value) → Led → Prop)
    (S : Src prog w A s.heap.objs.size need n P It) (hIt : ∀ i o, It i o → o.cls = ic) (hx : env.kindOf x = some .local) (hp : (env.scope.kind == .class || (env.scope.kind == .module && env.locals != env.globals)) = false)
    (hgo : ∀ s₁ h tk, Ok s₁ → Ok { s₁ with heap := h, toks := tk }) (hs : Ok s) (F : Fr h₀ env.locals s.heap m) (N : News h₀ env.locals s.heap led) (h0 : It 0 o) (hfree : o.isFreed = false) (hn : ∀ p ∈ need, p ∈ led) (hJ : J 0 m led)
    (stable : ∀ i m₁ led₁ led₂, (∀ p ∈ led₁, (p.1 < s.heap.objs.size ∨ p.2.cls ≠ ic) → p ∈ led₂) → J i m₁ led₁ → J i m₁ led₂)
    (step : ∀ i v m₁ led₁ s₁, Ok s₁ → i < n → P i v → (∀ p ∈ need, p ∈ led₁) → J i m₁ led₁ → Fr h₀ env.locals s₁.heap (fun y => if y = x then some v else m₁ y) → News h₀ env.locals s₁.heap led₁ →
      wpAny (model prog w) A (execs body env) (GStep Ok h₀ env.locals ic need led₁ (J (i + 1))) No s₁)
    (done : ∀ m₁ led₁ s₁, Ok s₁ → J n m₁ led₁ → Fr h₀ env.locals s₁.heap m₁ → News h₀ env.locals s₁.heap led₁ → R (.ok .next) s₁) :
    codeAny (model prog w) A (.forLoop (.Name x px) (.ref s.heap.objs.size) body [] env) R { s with heap := s.heap.push o } := by
  have hne : ∀ p ∈ need, p.1 ≠ s.heap.objs.size := fun p hp => Nat.ne_of_lt (led_le N p (hn p hp))
  refine forLoop_src (s := { s with heap := s.heap.push o }) (led := (s.heap.objs.size, o) :: led) (Ok := Ok) (fun i m₁ led₁ => J i m₁ led₁) S hx hp hgo (hgo s _ s.toks hs) (F.push _) (fun p hp => ?_) List.mem_cons_self h0 (fun p hp => List.mem_cons_of_mem _ (hn p hp)) (stable 0 m led _ (fun p hp _ => List.mem_cons_of_mem _ hp) hJ) hne ?_ ?_ ?_
  · rcases List.mem_cons.mp hp with rfl | hp
    · exact fresh_led F (Nat.le_refl _) (Heap.get?_push_size _ hfree)
    · exact ⟨Heap.get?_push_of_some _ (N p hp).1, (N p hp).2⟩
  · intro i m₁ led₁ led₂ o₁ h N₁ hI hit hk hJ₁
    refine stable i m₁ led₁ led₂ (fun p hp hc => hk p hp fun z => ?_) hJ₁
    rcases hc with hc | hc
    · rw [z] at hc
      exact Nat.lt_irrefl _ hc
    · have e1 := (N₁ p hp).1
      have e2 := (N₁ _ hI).1
      rw [z] at e1
      rw [show h.get? s.heap.objs.size = some o₁ from e2] at e1
      exact hc (by rw [← Option.some.inj e1]; exact hIt i o₁ hit)
  · intro i v m₁ led₁ s₁ o₁ hs₁ hi hP hI hit hn₁ hJ₁ F₁ N₁
    refine wpAny_mono (step i v m₁ led₁ s₁ hs₁ hi hP hn₁ hJ₁ F₁ N₁) (fun f s₂ h₂ => ?_) fun _ _ e => e
    cases f with
    | ret v => exact h₂.elim
    | brk => exact h₂.elim
    | next =>
      obtain ⟨m₂, led₂, a1, a2, a3, a4, a5, a6⟩ := h₂
      exact ⟨m₂, led₂, o₁, a1, a2, a3, a4 _ hI (hIt _ _ hit), hit, a5, a6⟩
    | cont =>
      obtain ⟨m₂, led₂, a1, a2, a3, a4, a5, a6⟩ := h₂
      exact ⟨m₂, led₂, o₁, a1, a2, a3, a4 _ hI (hIt _ _ hit), hit, a5, a6⟩
  · exact fun m₁ led₁ s₁ hs₁ _ hJ₁ F₁ N₁ => done m₁ led₁ s₁ hs₁ hJ₁ F₁ N₁
theorem letters_ascii {cs : List Nat} (hL : Letters cs) : (txt cs).cps.all (· < 128) = true := by
  simp [txt]
  intro c hc
  rcases hL c hc with rfl | rfl | rfl | rfl <;> decide
theorem for_str {R : Result → Shared → Prop} {x : Str} {px : Pos} {body : List Stmt} {Ok : Shared → Prop} {cs : List Nat} {t : Tok} (J : Nat → (Str → Option Value) → Led → Prop) (hL : Letters cs)
    (hh : A.handled = none) (hx : env.kindOf x = some .local) (hp : (env.scope.kind == .class || (env.scope.kind == .module && env.locals != env.globals)) = false)
    (hgo : ∀ s₁ h tk, Ok s₁ → Ok { s₁ with heap := h, toks := tk }) (hs : Ok s) (F : Fr h₀ env.locals s.heap m) (N : News h₀ env.locals s.heap led) (hJ : J 0 m led)
    (stable : ∀ i m₁ led₁ led₂, (∀ p ∈ led₁, (p.1 < s.heap.objs.size ∨ p.2.cls ≠ .type "str_ascii_iterator") → p ∈ led₂) → J i m₁ led₁ → J i m₁ led₂)
    (step : ∀ i c u m₁ led₁ s₁, Ok s₁ → cs[i]? = some c → J i m₁ led₁ → Fr h₀ env.locals s₁.heap (fun y => if y = x then some (.str (sg c) u) else m₁ y) → News h₀ env.locals s₁.heap led₁ →
      wpAny (model prog w) A (execs body env) (GStep Ok h₀ env.locals (.type "str_ascii_iterator") [] led₁ (J (i + 1))) No s₁)
    (done : ∀ m₁ led₁ s₁, Ok s₁ → J cs.length m₁ led₁ → Fr h₀ env.locals s₁.heap m₁ → News h₀ env.locals s₁.heap led₁ → R (.ok .next) s₁) :
    wpAny (model prog w) A (pyIter (.str (txt cs) t)) (fun it s₂ => codeAny (model prog w) A (.forLoop (.Name x px) it body [] env) R s₂) E s := by
  refine wpAny_pyIter_ascii (letters_ascii hL) ?_
  have hsz : (txt cs).cps.size = cs.length := by simp [txt]
  refine for_go (ic := .type "str_ascii_iterator") J (srcStr hh (txt cs) t) (fun i o h => h.1) hx hp hgo hs F N ⟨rfl, rfl⟩ rfl (fun p hp => nomatch hp) hJ stable (fun i v m₁ led₁ s₁ hs₁ hi hP hn hJ₁ F₁ N₁ => ?_) (fun m₁ led₁ s₁ a b => done m₁ led₁ s₁ a (hsz ▸ b))
  obtain ⟨c, u, hc, rfl⟩ := hP
  exact step i c u m₁ led₁ s₁ hs₁ (by simpa [txt] using hc) hJ₁ F₁ N₁
theorem for_list {R : Result → Shared → Prop} {x : Str} {px : Pos} {body : List Stmt} {Ok : Shared → Prop} {ax : Addr} {its : Array Value} {k : Nat} (J : Nat → (Str → Option Value) → Led → Prop)
    (hh : A.handled = none) (hx : env.kindOf x = some .local) (hp : (env.scope.kind == .class || (env.scope.kind == .module && env.locals != env.globals)) = false)
    (hgo : ∀ s₁ h tk, Ok s₁ → Ok { s₁ with heap := h, toks := tk }) (hs : Ok s) (F : Fr h₀ env.locals s.heap m) (N : News h₀ env.locals s.heap led) (hm : (ax, listOf its k) ∈ led) (hJ : J 0 m led)
    (stable : ∀ i m₁ led₁ led₂, (∀ p ∈ led₁, (p.1 < s.heap.objs.size ∨ p.2.cls ≠ .type "list_iterator") → p ∈ led₂) → J i m₁ led₁ → J i m₁ led₂)
    (step : ∀ i v m₁ led₁ s₁, Ok s₁ → its[i]? = some v → (ax, listOf its k) ∈ led₁ → J i m₁ led₁ → Fr h₀ env.locals s₁.heap (fun y => if y = x then some v else m₁ y) → News h₀ env.locals s₁.heap led₁ →
      wpAny (model prog w) A (execs body env) (GStep Ok h₀ env.locals (.type "list_iterator") [(ax, listOf its k)] led₁ (J (i + 1))) No s₁)
    (done : ∀ m₁ led₁ s₁, Ok s₁ → J its.size m₁ led₁ → Fr h₀ env.locals s₁.heap m₁ → News h₀ env.locals s₁.heap led₁ → R (.ok .next) s₁) :
    wpAny (model prog w) A (pyIter (.ref ax)) (fun it s₂ => codeAny (model prog w) A (.forLoop (.Name x px) it body [] env) R s₂) E s := by
  refine wpAny_pyIter_list ((ListAt.of hm).isList N) ?_
  exact for_go (ic := .type "list_iterator") J (srcList hh (Nat.ne_of_lt (led_le N _ hm)) its k) (fun i o h => h.1) hx hp hgo hs F N ⟨rfl, rfl⟩ rfl (fun p hp => by rw [List.mem_singleton.mp hp]; exact hm) hJ stable
    (fun i v m₁ led₁ s₁ hs₁ hi hP hn hJ₁ F₁ N₁ => step i v m₁ led₁ s₁ hs₁ hP (hn _ (List.mem_singleton.mpr rfl)) hJ₁ F₁ N₁) done
theorem for_acc {R : Result → Shared → Prop} {x : Str} {px : Pos} {body : List Stmt} {Ok : Shared → Prop} {ax d : Addr} {vs : List Value} {k : Nat} (J : Nat → (Str → Option Value) → Led → Prop)
    (hh : A.handled = none) (hx : env.kindOf x = some .local) (hp : (env.scope.kind == .class || (env.scope.kind == .module && env.locals != env.globals)) = false)
    (hgo : ∀ s₁ h tk, Ok s₁ → Ok { s₁ with heap := h, toks := tk }) (hs : Ok s) (X₀ : (hd.heap_1 w.params).In h₀) (F : Fr h₀ env.locals s.heap m) (N : News h₀ env.locals s.heap led) (hm : (ax, accO d vs k) ∈ led) (hJ : J 0 m led)
    (stable : ∀ i m₁ led₁ led₂, (∀ p ∈ led₁, (p.1 < s.heap.objs.size ∨ p.2.cls ≠ .type "list_iterator") → p ∈ led₂) → J i m₁ led₁ → J i m₁ led₂)
    (step : ∀ i v m₁ led₁ s₁, Ok s₁ → vs[i]? = some v → (ax, accO d vs k) ∈ led₁ → J i m₁ led₁ → Fr h₀ env.locals s₁.heap (fun y => if y = x then some v else m₁ y) → News h₀ env.locals s₁.heap led₁ →
      wpAny (model prog w) A (execs body env) (GStep Ok h₀ env.locals (.type "list_iterator") [(ax, accO d vs k)] led₁ (J (i + 1))) No s₁)
    (done : ∀ m₁ led₁ s₁, Ok s₁ → J vs.length m₁ led₁ → Fr h₀ env.locals s₁.heap m₁ → News h₀ env.locals s₁.heap led₁ → R (.ok .next) s₁) :
    wpAny (model prog w) A (pyIter (.ref ax)) (fun it s₂ => codeAny (model prog w) A (.forLoop (.Name x px) it body [] env) R s₂) E s := by
  refine acc_iter (X₀.keeps F.keep) (N.get hm) ?_
  exact for_go (ic := .type "list_iterator") J (srcAcc hh (Nat.ne_of_lt (led_le N _ hm)) vs k) (fun i o h => h.1) hx hp hgo hs F N ⟨rfl, rfl⟩ rfl (fun p hp => by rw [List.mem_singleton.mp hp]; exact hm) hJ stable
    (fun i v m₁ led₁ s₁ hs₁ hi hP hn hJ₁ F₁ N₁ => step i v m₁ led₁ s₁ hs₁ hP (hn _ (List.mem_singleton.mpr rfl)) hJ₁ F₁ N₁) done
end
end
local macro_rules | `(tactic| walk_at "execs cons") => `(tactic| (k_here; walk_at "cut on"; (with_reducible refine execs_cut2 ?_); intro tk kR kC))
local macro_rules | `(tactic| walk_at "my cut") => `(tactic| ((with_reducible rename Cut _ _ _ _ _ _ _ => kC); (first | (with_reducible refine cut_next kC ?_) | (with_reducible refine cut_ret kC ?_)); clear kC))
section
set_option maxHeartbeats 1000000
theorem lst_append {prog : Program} {w : World} {A : Around} {E : Value → Shared → Prop} {s : Shared} {h₀ : Heap} {L D : Addr} {m : Str → Option Value} {led : Led} {its : Array Value} {n : Nat} {x : Value} {Q : Value → Shared → Prop} (F : Fr h₀ L s.heap m) (N : News h₀ L s.heap led) (hm : (D, listOf its n) ∈ led) (hz : its.size < 1000)
    (h : ∀ h', Fr h₀ L h' m → News h₀ L h' (upd D (listOf (its.push x) (n + 1)) led) → Q .none { s with heap := h' }) : wpAny (model prog w) A (call (.builtin "list.append") [.ref D, x]) Q E s :=
  append_at (hsz := by rw [sizeLine_eq]; omega) (N _ hm).1 fun h' hs ho' => h h' (fr_change F N hm fun b y hb e => hs.extBut b y hb e) (news_change N hm (fun b y hb e => hs.extBut b y hb e) ho')
end
local macro_rules | `(tactic| walk_at "call builtin:list.append") => `(tactic| (k_here; k_dflt (first
  | (refine' acc_append ?F ?X ?N ?m ?z ?_; (case F => k_asm); (case X => k_asm); (case N => k_asm); (case m => k_mem); (case z => assumption); k_whole; intro h' F' N')
  | (refine' lst_append ?F ?N ?m ?z ?_; (case F => k_asm); (case N => k_asm); (case m => k_mem); (case z => first | assumption | (simp only [List.size_toArray]; omega) | omega); k_whole; intro h' F' N'))))
theorem off_E2 : True := by
  w_top off
  trivial
section
set_option maxHeartbeats 1000000
noncomputable def subN (c d : Nat) : Nat := if c = d then 0 else if Txt.lower (sg c) = Txt.lower (sg d) then 1 else 2
theorem sg_inj {c d : Nat} : sg c = sg d ↔ c = d := ⟨fun h => by have := congrArg (fun s : Str => s.cps[0]?) h; simpa using this, fun h => h ▸ rfl⟩
theorem subV_sg (c d : Nat) : subV (sg c) (sg d) = (subN c d : Nat) := by
  unfold subV subN
  by_cases h : c = d
  · simp [h]
  · have : ¬ sg c = sg d := fun e => h (sg_inj.mp e)
    simp only [if_neg h, if_neg this]
    split <;> rfl
theorem subN_cases (c d : Nat) : subN c d = 0 ∨ subN c d = 1 ∨ subN c d = 2 := by
  unfold subN
  split
  · exact .inl rfl
  · split
    · exact .inr (.inl rfl)
    · exact .inr (.inr rfl)
theorem txt_snoc (cs : List Nat) (c : Nat) : txt cs ++ sg c = txt (cs ++ [c]) := by
  show (⟨cs.toArray ++ #[c]⟩ : Str) = ⟨(cs ++ [c]).toArray⟩
  simp
noncomputable def toldRow (c : Nat) (cs : List Nat) : List Nat := cs.map fun d => 48 + subN c d
noncomputable def told (cs : List Nat) : List (List Nat) := cs.map fun c => toldRow c cs
/-- a list of texts in the ledger -/
noncomputable def TextsAt (led : Led) (a : Addr) (rows : List (List Nat)) : Prop := ∃ vs n, (a, listOf vs n) ∈ led ∧ StrsAre vs.toList (rows.map txt)
theorem str_small {prog : Program} {w : World} {A : Around} {E : Value → Shared → Prop} {s : Shared} {Q : Value → Shared → Prop} {k : Nat} {t : Tok} (hk : k = 0 ∨ k = 1 ∨ k = 2) (h : Q (.str (sg (48 + k)) s.toks) { s with toks := s.toks + 1 }) : wpAny (model prog w) A (call (.type "str") [.int (k : Nat) t]) Q E s := by
  refine PySem.P.str_of_int ?_ ?_
  · rcases hk with rfl | rfl | rfl <;> decide
  · have e : (Str.ofString (toString ((k : Nat) : Int))) = sg (48 + k) := by rcases hk with rfl | rfl | rfl <;> decide +kernel
    rw [e]
    exact h
local macro_rules | `(tactic| walk_at "call type:str") => `(tactic| (k_here; k_dflt (refine' str_small (subN_cases _ _) ?_)))
theorem ex_str {v : Option Value} {x y : Str} {t : Tok} (e : x = y) (h : v = some (Value.str x t)) : ∃ t, v = some (Value.str y t) := ⟨t, e ▸ h⟩
theorem strs_append : ∀ {vs ws : List Value} {xs ys : List Str}, StrsAre vs xs → StrsAre ws ys → StrsAre (vs ++ ws) (xs ++ ys)
  | _, _, _, _, .nil, h => h
  | _, _, _, _, .cons x t r, h => .cons x t (strs_append r h)
noncomputable abbrev toI1 (led : Led) (cs : List Nat) (t : Tok) (i : Nat) (m₁ : Str → Option Value) (led₁ : Led) : Prop := ∃ a vs n, (a, listOf vs n) ∈ led₁ ∧ StrsAre vs.toList (((told cs).take i).map txt) ∧ (∀ p ∈ led, p ∈ led₁ ∧ p.1 ≠ a) ∧ m₁ (Str.ofString "lines") = some (.ref a) ∧ m₁ (Str.ofString "text") = some (.str (txt cs) t)
theorem toI1_out {P : Prop} {led : Led} {cs : List Nat} {t : Tok} {i : Nat} {m₁ : Str → Option Value} {led₁ : Led} (H : toI1 led cs t i m₁ led₁) (kk : ∀ a, ∀ vs, ∀ n, ((a, listOf vs n) ∈ led₁) → (StrsAre vs.toList (((told cs).take i).map txt)) → ((∀ p ∈ led, p ∈ led₁ ∧ p.1 ≠ a)) → (m₁ (Str.ofString "lines") = some (.ref a)) → (m₁ (Str.ofString "text") = some (.str (txt cs) t)) →  P) : P := by
  obtain ⟨z0, z1, z2, z3, z4, z5, z6, z7⟩ := H
  exact kk z0 z1 z2 z3 z4 z5 z6 z7
noncomputable abbrev toI2 (led₁ : Led) (cs : List Nat) (c : Nat) (a9 : Addr) (u : Tok) (t : Tok) (j : Nat) (m₂ : Str → Option Value) (led₂ : Led) : Prop := (∃ tl, m₂ (Str.ofString "line") = some (.str (txt ((toldRow c cs).take j)) tl)) ∧ m₂ (Str.ofString "one") = some (.str (sg c) u) ∧ m₂ (Str.ofString "lines") = some (.ref a9) ∧ m₂ (Str.ofString "text") = some (.str (txt cs) t) ∧ ∀ p ∈ led₁, p ∈ led₂
theorem toI2_out {P : Prop} {led₁ : Led} {cs : List Nat} {c : Nat} {a9 : Addr} {u : Tok} {t : Tok} {j : Nat} {m₂ : Str → Option Value} {led₂ : Led} (H : toI2 led₁ cs c a9 u t j m₂ led₂) (kk : ∀ tl, (m₂ (Str.ofString "line") = some (.str (txt ((toldRow c cs).take j)) tl)) → (m₂ (Str.ofString "one") = some (.str (sg c) u)) → (m₂ (Str.ofString "lines") = some (.ref a9)) → (m₂ (Str.ofString "text") = some (.str (txt cs) t)) → (∀ p ∈ led₁, p ∈ led₂) →  P) : P := by
  obtain ⟨⟨z0, z1⟩, z2, z3, z4, z5⟩ := H
  exact kk z0 z1 z2 z3 z4 z5
theorem told_spec {w : World} {led : Led} {cs : List Nat} {t : Tok} (hlen : cs.length < 20) (hL : Letters cs) :
    Spec w 196 10 60 [.str (txt cs) t] led (fun v led' => ∃ a, v = .ref a ∧ TextsAt led' a (told cs) ∧ ∀ p ∈ led, p ∈ led') := by
  intro mean mg mb dp un gd cn cs' a ccd cl outer A₀ base h₀ L m s Q E B F X N T hk hdp hu ret
  walk_at "my enter"
  walk_at "my upto"
  rename Fr _ _ _ _ => F1
  rename News _ _ _ _ => N1
  rename (∀ p ∈ led, p.1 < _) => l1
  refine wpAny_For ?_ (fun _ => rfl)
  walk_at "my upto"
  refine for_str (Ok := Still s) (toI1 led cs t)
    hL rfl rfl rfl (fun _ _ _ => still_go _ _) ⟨_, _, rfl⟩ F1 N1 ⟨_, _, _, List.mem_cons_self, .nil, fun p hp => ⟨List.mem_cons_of_mem _ hp, Nat.ne_of_lt (l1 p hp)⟩, rfl, rfl⟩ ?_ ?_ ?_
  · rintro i m₁ led₁ led₂ hk ⟨a9, vs, n, h1, h2, h3, h4, h5⟩
    exact ⟨a9, vs, n, hk _ h1 (.inr (show Value.type "list" ≠ Value.type "str_ascii_iterator" by decide)), h2, fun p hp => ⟨hk p (h3 p hp).1 (.inl (Nat.lt_trans (l1 p hp) (led_le N1 _ List.mem_cons_self))), (h3 p hp).2⟩, h4, h5⟩
  · intro i c u m₁ led₁ s₁ HS
    refine still_out HS fun h2 tk2 => ?_
    clear HS s₁
    intro hc HX
    refine toI1_out HX fun a9 vs n hm1 hm2 hm3 hn1 hn2 => ?_
    clear HX
    intro F2 N2
    (try clear F1)
    (try clear N1)
    walk_at "my upto"
    rename Fr _ _ _ _ => F3
    rename News _ _ _ _ => N3
    refine wpAny_For ?_ (fun _ => rfl)
    walk_at "my upto"
    refine for_str (Ok := Still s) (toI2 led₁ cs c a9 u t)
      hL rfl rfl rfl (fun _ _ _ => still_go _ _) ⟨_, _, rfl⟩ F3 N3 ⟨⟨_, rfl⟩, rfl, hn1, hn2, fun p hp => hp⟩ ?_ ?_ ?_
    · rintro j m₂ led₂ led₃ hk ⟨k1, k2, k3, k4, k5⟩
      exact ⟨k1, k2, k3, k4, fun p hp => hk p (k5 p hp) (.inl (led_le N3 p hp))⟩
    · intro j e u2 m₂ led₂ s₂ HS
      refine still_out HS fun h3 tk3 => ?_
      clear HS s₂
      intro he HX
      refine toI2_out HX fun tl k1 k2 k3 k4 k5 => ?_
      clear HX
      intro F4 N4
      (try clear F3)
      (try clear N3)
      walk_at "my upto"
      k_dflt (refine' (sub_spec (w := _) (sg c) (sg e) _ _ (Nat.le_refl 1) (Nat.le_refl 1)).use ?B ?F ?X ?N ?T ?kK ?kd ?ku ?_)
      walk_at "use"
      intro v5 h5 tk5 n5 F5 N5 P5
      refine o_some (v := v5) P5 fun t5 K5 => ?_
      clear P5
      rw [subV_sg]
      (try clear F4)
      (try clear N4)
      have hrow : (toldRow c cs).take (j + 1) = (toldRow c cs).take j ++ [48 + subN c e] := by
        rw [List.take_add_one]
        simp [toldRow, he]
      have hlen2 : (txt ((toldRow c cs).take j)).length ≤ 20 := by
        have : (toldRow c cs).length = cs.length := by simp [toldRow]
        simp [Str.length, txt]
        omega
      (try dsimp only)
      walk_at "my upto"
      rename Fr _ _ _ (fun y => if y = Str.ofString "line" then _ else _) => F6
      rename News _ _ _ n5 => N6
      refine ⟨_, _, ⟨_, _, rfl⟩, F6, N6, fun p hp _ => K5 p hp, (fun p hp => nomatch hp), ex_str (by rw [hrow, ← txt_snoc]) rfl, k2, k3, k4, fun p hp => K5 p (k5 p hp)⟩
    · intro m₂ led₂ s₂ HS
      refine still_out HS fun h3 tk3 => ?_
      clear HS s₂
      intro HX
      refine toI2_out HX fun tl k1 k2 k3 k4 k5 => ?_
      clear HX
      intro F4 N4
      (try clear F3)
      (try clear N3)
      have hmA := k5 _ hm1
      have hsz9 : vs.size < 1000 := by
        have := hm2.length
        have h9 : (told cs).length = cs.length := by simp [told]
        simp at this
        omega
      have hne9 : ∀ p ∈ led₁, p.2.cls ≠ .type "list" → p.1 ≠ a9 := fun p hp hc => News.ne N4 (k5 p hp) hmA hc
      (try dsimp only)
      walk_at "my upto"
      rename Fr _ _ _ _ => F6
      rename News _ _ _ _ => N6
      have hr9 : (toldRow c cs).take cs.length = toldRow c cs := List.take_of_length_le (by simp [toldRow])
      have ht9 : (told cs).take (i + 1) = (told cs).take i ++ [toldRow c cs] := by
        rw [List.take_add_one]
        simp [told, hc]
      refine ⟨_, _, ⟨_, _, rfl⟩, F6, N6, fun p hp hc => upd_other (k5 p hp) (hne9 p hp (by rw [hc]; decide)), (fun p hp => nomatch hp), a9, _, _, upd_self, ?_, fun p hp => ⟨upd_other (k5 p (hm3 p hp).1) (hm3 p hp).2, (hm3 p hp).2⟩, k3, k4⟩
      rw [ht9, List.map_append, Array.toList_push, hr9]
      exact strs_append hm2 (.cons _ _ .nil)
  · intro m₁ led₁ s₁ HS
    refine still_out HS fun h2 tk2 => ?_
    clear HS s₁
    intro HX
    refine toI1_out HX fun a9 vs n hm1 hm2 hm3 hn1 hn2 => ?_
    clear HX
    intro F2 N2
    (try clear F1)
    (try clear N1)
    (try dsimp only)
    walk_at "my upto"
    rename Fr h₀ L _ _ => kF
    rename News h₀ L _ _ => kN
    refine ret _ _ _ _ kF kN ⟨a9, rfl, ⟨vs, n, hm1, ?_⟩, fun p hp => (hm3 p hp).1⟩
    rw [List.take_of_length_le (by simp [told])] at hm2
    exact hm2
end
local macro_rules | `(tactic| walk_at "pad") => `(tactic| skip)
theorem off_E3 : True := by
  w_top off
  trivial
section
set_option maxHeartbeats 1000000
local macro_rules | `(tactic| walk_at "cut on") => `(tactic| skip)
section
variable {prog : Program} {w : World} {A : Around} {E : Value → Shared → Prop} {s : Shared} {h₀ : Heap} {L l : Addr} {m : Str → Option Value} {led : Led} {its : Array Value} {n : Nat}
theorem set_listOf {k : Int} {t : Tok} {v : Value} {Q : Unit → Shared → Prop} (F : Fr h₀ L s.heap m) (N : News h₀ L s.heap led) (hm : (l, listOf its n) ∈ led) (h0 : 0 ≤ k) (hn : k < its.size) (hfit : k < 2 ^ 63)
    (h : ∀ h', Fr h₀ L h' m → News h₀ L h' (upd l (listOf (its.setIfInBounds k.toNat v) n) led) → Q () { s with heap := h' }) :
    wpAny (model prog w) A (setItem (.ref l) (.int k t) v) Q E s := by
  have ho := (N _ hm).1
  have hl : s.heap.IsList l its := ⟨_, ho, rfl, _, rfl⟩
  unfold setItem
  try with_reducible refine wpAny_holding ?_
  first | refine wpAny_bind (wpAny_pure ?_) | skip
  refine wpAny_bind (wpAny_sequenceKey hl.typeIs (by decide) ?_)
  refine wpAny_bind (wpAny_callSpecial?_slot (name := Str.ofString "__setitem__") hl.typeIs slot_list_setitem (wpAny_call_entry slot_list_setitem hl.typeIs entry_list_setitem ?_ (args_list_setitem _ _ _)))
  show wpAny _ _ (Builtin.List.listSubscript? (.int k t) >>= _) _ _ s
  refine wpAny_bind (wpAny_listSubscript_int (fitsIndex_of h0 hfit) ?_)
  clear hfit
  obtain ⟨j, rfl⟩ := Int.eq_ofNat_of_zero_le h0
  have hj : j < its.size := by omega
  have hx : its[j]? = some its[j] := Array.getElem?_eq_getElem hj
  obtain ⟨F', N'⟩ := led_update F N hm (Obj.mapSeq (·.setIfInBounds j v)) (o' := listOf (its.setIfInBounds j v) n) (by simp [Obj.mapSeq]) rfl
  have fin := h _ F' N'
  show wpAny _ _ ((seqItemAt l j >>= fun r => pure (r.map (j, ·))) >>= _) _ _ s
  refine wpAny_bind (wpAny_bind (wpAny_seqItemAt ho rfl (wpAny_pure ?_)))
  rw [hx]
  show wpAny _ _ (setSeqItemAt l j v >>= _) _ _ s
  refine wpAny_bind (wpAny_setSeqItemAt ho rfl ?_)
  first
    | exact wpAny_bind (wpAny_pure (wpAny_pure ⟨.none, rfl, wpAny_pure fin⟩))
    | exact wpAny_pure ⟨.none, rfl, wpAny_pure fin⟩
end
/-- a contract with a condition on the base -/
noncomputable def SpecH (w : World) (f : Addr) (d u : Nat) (vs : List Value) (news : Led) (Pre : Heap → Prop) (Post : Value → Led → Prop) : Prop :=
  ∀ (mean : ExcName → Option Value) (mg mb : Str → Option Value) (dp un : Nat) (gd : Option (List Code)) (cn : Str) (cs : Scope) (a : Addr) (ccd : Value) (cl : List (Str × Addr)) (outer : List Env) (A₀ : Around) (base h₀ : Heap) (L : Addr) (m : Str → Option Value) (s : Shared) (Q E : Value → Shared → Prop),
    Below A₀ base outer h₀ → Fr h₀ L s.heap m → (hd.heap_1 w.params).In h₀ → News h₀ L s.heap news → TT mean mg mb h₀ → cs.kind = .function → dp + d < recursionLimit → un + u < cLine → Pre h₀ →
    Ret h₀ L m s Q Post → wpAny (model PR w) (ktrTop dp un gd cn cs L a ccd cl outer) (call (.ref f) vs) Q E s
theorem not_isEn_list {vs : Array Value} {n : Nat} : ¬ isEn (listOf vs n) := by
  rintro (h | h)
  · exact absurd (show Value.type "list" = Value.type "enumerate" from h) (by decide)
  · exact absurd (show Value.type "list" = Value.type "list_iterator" from h) (by decide)
theorem ints_set : ∀ {vs : List Value} {ns : List Int} (j : Nat) (y : Int) (t : Tok), IntsAre vs ns → IntsAre (vs.set j (.int y t)) (ns.set j y)
  | _, _, _, _, _, .nil => .nil
  | _, _, 0, y, t, .cons _ _ r => .cons y t r
  | _, _, j + 1, y, t, .cons x u r => .cons x u (ints_set j y t r)
theorem ints_at : ∀ {vs : List Value} {ns : List Int} {j : Nat} {v : Value}, IntsAre vs ns → vs[j]? = some v → ∃ x t, v = .int x t
  | _, _, 0, _, .cons x t _, e => ⟨x, t, by simpa using e.symm⟩
  | _, _, j + 1, _, .cons _ _ r, e => ints_at (j := j) r (by simpa using e)
noncomputable abbrev nuI1 (led : Led) (D9 : Addr) (i : Nat) (m₁ : Str → Option Value) (led₁ : Led) : Prop := ∃ (nums : List Int) (a9 : Addr) (vs9 : Array Value) (n9 : Nat), (a9, listOf vs9 n9) ∈ led₁ ∧ IntsAre vs9.toList nums ∧ nums.length = 5 ∧ (∀ x ∈ nums, 0 ≤ x) ∧ m₁ (Str.ofString "numbers") = some (.ref a9) ∧ (∀ p ∈ led, p ∈ led₁ ∧ p.1 ≠ a9) ∧ D9 ≠ a9
theorem nuI1_out {P : Prop} {led : Led} {D9 : Addr} {i : Nat} {m₁ : Str → Option Value} {led₁ : Led} (H : nuI1 led D9 i m₁ led₁) (kk : ∀ (nums : List Int), ∀ (a9 : Addr), ∀ (vs9 : Array Value), ∀ (n9 : Nat), ((a9, listOf vs9 n9) ∈ led₁) → (IntsAre vs9.toList nums) → (nums.length = 5) → ((∀ x ∈ nums, 0 ≤ x)) → (m₁ (Str.ofString "numbers") = some (.ref a9)) → ((∀ p ∈ led, p ∈ led₁ ∧ p.1 ≠ a9)) → (D9 ≠ a9) →  P) : P := by
  obtain ⟨z0, z1, z2, z3, z4, z5, z6, z7, z8, z9, z10⟩ := H
  exact kk z0 z1 z2 z3 z4 z5 z6 z7 z8 z9 z10
theorem numbers_spec {w : World} {led : Led} {l : Addr} {vs : List Value} {ns : List Int} (hi : IntsAre vs ns) (hlen : ns.length ≤ 63) :
    SpecH w 168 10 60 [.ref l] led (fun h₀ => h₀.IsList l vs.toArray) (fun v led' => ∃ a nums ws n, v = .ref a ∧ (a, listOf ws n) ∈ led' ∧ IntsAre ws.toList nums ∧ nums.length = 5 ∧ (∀ x ∈ nums, 0 ≤ x) ∧ ∀ p ∈ led, p ∈ led') := by
  intro mean mg mb dp un gd cn cs' a ccd cl outer A₀ base h₀ L m s Q E B F X N T hk hdp hu hpre ret
  walk_at "my enter"
  rename Fr h₀ _ _ _ => FG
  have hl9 := hpre.at (fun o e => FG.keep l o e)
  walk_at "my upto"
  rename Fr _ _ _ (fun y => if y = Str.ofString "numbers" then _ else _) => F1
  rename News _ _ _ _ => N1
  rename (∀ p ∈ led, p.1 < _) => l1
  have hb := led_le N1 _ List.mem_cons_self
  refine wpAny_For ?_ (fun _ => rfl)
  walk_at "my upto"
  rename Fr _ _ _ (fun y => if y = Str.ofString "numbers" then _ else _) => F2
  rename News _ _ _ (_ :: _ :: led) => N2
  rename IntsAre _ (List.take 20 ns) => hI
  rename Addr => D9
  rename (_ < D9 ∧ _) => hD
  refine for_enum (Ok := Still s) (nuI1 led D9)
    F2 N2 (ListAt.of List.mem_cons_self) rfl rfl rfl rfl (fun _ _ _ => still_go _ _) ⟨_, _, rfl⟩ ⟨[3, 14, 34, 91, 135], _, _, _, List.mem_cons_of_mem _ List.mem_cons_self, ?_, rfl, by decide, rfl, ?_, ?_⟩ ?_ ?_ ?_
  · exact .cons _ _ (.cons _ _ (.cons _ _ (.cons _ _ (.cons _ _ .nil))))
  · exact fun p hp => ⟨List.mem_cons_of_mem _ (List.mem_cons_of_mem _ hp), Nat.ne_of_lt (l1 p hp)⟩
  · exact Ne.symm (Nat.ne_of_lt hD.1)
  · rintro i m₁ led₁ led₂ hk ⟨nums, a9, vs9, n9, h1, h2, h3, h4, h5, h6, h7⟩
    exact ⟨nums, a9, vs9, n9, hk _ h1 (.inr not_isEn_list), h2, h3, h4, h5, fun p hp => ⟨hk p (h6 p hp).1 (.inl (led_le N2 p (List.mem_cons_of_mem _ (List.mem_cons_of_mem _ hp)))), (h6 p hp).2⟩, h7⟩
  · intro i t vb m₁ led₁ s₁ HS
    refine still_out HS fun h2 tk2 => ?_
    clear HS s₁
    intro hv hL HX
    refine nuI1_out HX fun nums a9 vs9 n9 hm1 hm2 hm3 hm4 hn1 hm5 hm6 => ?_
    clear HX
    intro F3 N3
    (try clear F2)
    (try clear N2)
    obtain ⟨x, t2, rfl⟩ : ∃ x t2, vb = .int x t2 := ints_at hI (by simpa using hv)
    have hk0 : 0 ≤ (i : Int).fmod 5 := by rw [Int.fmod_eq_emod_of_nonneg _ (by decide)]; omega
    have hk5 : (i : Int).fmod 5 < vs9.size := by
      have := hm2.length
      simp at this
      rw [Int.fmod_eq_emod_of_nonneg _ (by decide)]
      omega
    have hk6 : (i : Int).fmod 5 < 2 ^ 63 := by rw [Int.fmod_eq_emod_of_nonneg _ (by decide)]; omega
    walk_at "my upto"
    rename Fr _ _ _ _ => F4
    rename News _ _ _ _ => N4
    have hne : ∀ p ∈ led₁, p.2.cls ≠ .type "list" → p.1 ≠ a9 := fun p hp hc => News.ne N4 hp hm1 hc
    refine set_listOf F4 N4 hm1 hk0 hk5 hk6 fun h5 F5 N5 => ?_
    (try dsimp only)
    walk_at "my upto"
    refine ⟨_, _, ⟨_, _, rfl⟩, F5, N5, ?_, nums.set ((i : Int).fmod 5).toNat (nums.getD ((i : Int).fmod 5).toNat 0 + x.fmod 1000003), a9, _, n9, upd_self, ?_, by rw [List.length_set]; exact hm3, ?_, hn1, fun p hp => ⟨upd_other (hm5 p hp).1 (hm5 p hp).2, (hm5 p hp).2⟩, hm6⟩
    · rintro p hp (hc | hc)
      · exact upd_other hp (hne p hp (by rcases hc with hc | hc <;> rw [hc] <;> decide))
      · exact upd_other hp (hc ▸ hm6)
    · rw [Array.toList_setIfInBounds]
      exact ints_set _ _ _ hm2
    · intro z hz
      rcases List.mem_or_eq_of_mem_set hz with h | rfl
      · exact hm4 z h
      · have h1 : 0 ≤ nums.getD ((i : Int).fmod 5).toNat 0 := by
          rw [List.getD_eq_getElem?_getD]
          cases hg : nums[((i : Int).fmod 5).toNat]? with
          | none => simp
          | some z => exact hm4 z (List.mem_of_getElem? hg)
        have h2 : 0 ≤ x.fmod 1000003 := by rw [Int.fmod_eq_emod_of_nonneg _ (by decide)]; exact Int.emod_nonneg _ (by decide)
        omega
  · intro m₁ led₁ s₁ HS
    refine still_out HS fun h2 tk2 => ?_
    clear HS s₁
    intro HX
    refine nuI1_out HX fun nums a9 vs9 n9 hm1 hm2 hm3 hm4 hn1 hm5 hm6 => ?_
    clear HX
    intro F3 N3
    (try clear F2)
    (try clear N2)
    refine wpAny_execs_nil ?_
    (try dsimp only)
    walk_at "my upto"
    rename Fr h₀ L _ _ => kF
    rename News h₀ L _ _ => kN
    exact ret _ _ _ _ kF kN ⟨a9, nums, vs9, n9, rfl, hm1, hm2, hm3, hm4, fun p hp => (hm5 p hp).1⟩
end
local macro_rules | `(tactic| walk_at "setItem ref int") => `(tactic| (k_here; k_dflt (refine' set_listOf ?F ?N ?m ?a ?b ?c ?_; (case F => k_asm); (case N => k_asm); (case m => k_mem); (case a => first | assumption | omega); (case b => first | assumption | omega); (case c => first | assumption | omega)); intro h' F' N'))
local macro_rules | `(tactic| walk_at "eval Name") => `(tactic| (k_here; k_dflt (first
  | (refine' ld ?k1 ?k2 ?_; (case k1 => k_asm); (case k2 => first | assumption | exact rfl); k_whole)
  | ((with_reducible rename Fr _ _ _ _ => kF); (with_unfolding_all refine guard_global (by rfl) ?_); (first
    | (refine' name_K kF ?k1 ?k2 ?k3 ?_; (case k1 => k_asm); (case k2 => k_asm); (case k3 => k_is); k_whole)
    | (refine' name_B kF ?k1 ?k2 ?k3 ?k4 ?k5 ?_; (case k1 => k_asm); (case k2 => k_asm); (case k3 => k_is); (case k4 => boot_by_name); (case k5 => decide); k_whole))))))
section
set_option maxHeartbeats 1000000
noncomputable abbrev isTupIt (ax : Addr) (i : Nat) (o : Obj) : Prop := o.cls = .type "tuple_iterator" ∧ o.data = .fields #[.ref ax, .int i 0]
theorem srcTup {prog : Program} {w : World} {A : Around} (hh : A.handled = none) {I ax : Addr} (hne : ax ≠ I) (vs : List Value) (k : Nat) :
    Src prog w A I [(ax, tupO vs k)] vs.toArray.size (fun i v => vs.toArray[i]? = some v) (isTupIt ax) :=
  .ofWalks (Walks.tuple hh I ax hne vs.toArray) (fun i h st => let ⟨o, e, r⟩ := st.1; ⟨o, e, r⟩) fun i h o e hit hn => ⟨⟨o, e, hit⟩, ⟨_, hn _ (List.mem_singleton.mpr rfl), rfl, _, rfl⟩⟩
section
variable {prog : Program} {w : World} {A : Around} {E : Value → Shared → Prop} {s : Shared} {env : Env} {h₀ : Heap} {m : Str → Option Value} {led : Led}
theorem for_tuple {R : Result → Shared → Prop} {x : Str} {px : Pos} {body : List Stmt} {Ok : Shared → Prop} {ax : Addr} {vs : List Value} {k : Nat} (J : Nat → (Str → Option Value) → Led → Prop)
    (hh : A.handled = none) (hx : env.kindOf x = some .local) (hp : (env.scope.kind == .class || (env.scope.kind == .module && env.locals != env.globals)) = false)
    (hgo : ∀ s₁ h tk, Ok s₁ → Ok { s₁ with heap := h, toks := tk }) (hs : Ok s) (F : Fr h₀ env.locals s.heap m) (N : News h₀ env.locals s.heap led) (hm : (ax, tupO vs k) ∈ led) (hJ : J 0 m led)
    (stable : ∀ i m₁ led₁ led₂, (∀ p ∈ led₁, (p.1 < s.heap.objs.size ∨ p.2.cls ≠ .type "tuple_iterator") → p ∈ led₂) → J i m₁ led₁ → J i m₁ led₂)
    (step : ∀ i v m₁ led₁ s₁, Ok s₁ → vs[i]? = some v → (ax, tupO vs k) ∈ led₁ → J i m₁ led₁ → Fr h₀ env.locals s₁.heap (fun y => if y = x then some v else m₁ y) → News h₀ env.locals s₁.heap led₁ →
      wpAny (model prog w) A (execs body env) (GStep Ok h₀ env.locals (.type "tuple_iterator") [(ax, tupO vs k)] led₁ (J (i + 1))) No s₁)
    (done : ∀ m₁ led₁ s₁, Ok s₁ → J vs.length m₁ led₁ → Fr h₀ env.locals s₁.heap m₁ → News h₀ env.locals s₁.heap led₁ → R (.ok .next) s₁) :
    wpAny (model prog w) A (pyIter (.ref ax)) (fun it s₂ => codeAny (model prog w) A (.forLoop (.Name x px) it body [] env) R s₂) E s := by
  refine wpAny_pyIter_tuple ⟨_, (N _ hm).1, rfl, _, rfl⟩ ?_
  have hsz : vs.toArray.size = vs.length := by simp
  exact for_go (ic := .type "tuple_iterator") J (srcTup hh (Nat.ne_of_lt (led_le N _ hm)) vs k) (fun i o h => h.1) hx hp hgo hs F N ⟨rfl, rfl⟩ rfl (fun p hp => by rw [List.mem_singleton.mp hp]; exact hm) hJ stable
    (fun i v m₁ led₁ s₁ hs₁ hi hP hn hJ₁ F₁ N₁ => step i v m₁ led₁ s₁ hs₁ (by simpa using hP) (hn _ (List.mem_singleton.mpr rfl)) hJ₁ F₁ N₁) (fun m₁ led₁ s₁ a b => done m₁ led₁ s₁ a (hsz ▸ b))
end
theorem item_ab {y : Int} : ∃ c, (c = 97 ∨ c = 98) ∧ Txt.item (Str.ofString "ab") (y.fmod 2) = sg c := by
  have h : y.fmod 2 = 0 ∨ y.fmod 2 = 1 := by rw [Int.fmod_eq_emod_of_nonneg _ (by decide)]; omega
  rcases h with h | h
  · exact ⟨97, .inl rfl, by rw [h]; decide +kernel⟩
  · exact ⟨98, .inr rfl, by rw [h]; decide +kernel⟩
theorem slice_to {l : List Nat} {p : Nat} (h : p ≤ l.length) : Txt.slice (txt l) none (some (p : Int)) = txt (l.take p) := by
  have e := eq_of_beq (slice_closes_to (x := txt l) (j := (p : Int)) ⟨by omega, by simpa using h⟩)
  rw [e]
  simp [txt]
theorem slice_fro {l : List Nat} {p : Nat} (h : p ≤ l.length) : Txt.slice (txt l) (some (p : Int)) none = txt (l.drop p) := by
  have e := eq_of_beq (slice_closes_fromL (x := txt l) (i := (p : Int)) (b := (l.length : Int)) (by omega) (by simpa [Str.length] using h) (by simp [Str.length]))
  rw [e]
  simp [txt]
  exact List.take_of_length_le (by simp)
theorem txt_append (a b : List Nat) : txt a ++ txt b = txt (a ++ b) := by
  show (⟨a.toArray ++ b.toArray⟩ : Str) = ⟨(a ++ b).toArray⟩
  simp
/-- a letter has been put in somewhere -/
noncomputable def Ins (c : Nat) (cs cs' : List Nat) : Prop := ∃ p, p ≤ cs.length ∧ cs' = cs.take p ++ [c] ++ cs.drop p
structure Bal (cs : List Nat) (k : Nat) : Prop where
  letters : Letters cs
  len : cs.length = 2 * k
  a : cs.count 97 = cs.count 65
  b : cs.count 98 = cs.count 66
theorem AccAt.cls {led led' : Led} {r d : Addr} {cs : List Nat} {ic : Value} (H : AccAt led r d cs) (h1 : Value.ref 101 ≠ ic) (h2 : Value.type "dict" ≠ ic) (h3 : Value.type "tuple" ≠ ic) (hk : ∀ p ∈ led, p.2.cls ≠ ic → p ∈ led') : AccAt led' r d cs := by
  obtain ⟨vs, n, hsh, t, t', k, a1, a2, a3⟩ := H.out
  exact ⟨vs, n, hsh, t, t', k, hk _ a1 h1, hk _ a2 h2, a3.mono fun a vs n hp => hk _ hp h3⟩
theorem ints_at2 : ∀ {vs : List Value} {ns : List Int} {j : Nat} {v : Value}, IntsAre vs ns → vs[j]? = some v → ∃ x t, v = .int x t ∧ ns[j]? = some x
  | _, _, 0, _, .cons x t _, e => ⟨x, t, by simpa using e.symm, rfl⟩
  | _, _, j + 1, _, .cons _ _ r, e => by simpa using ints_at2 (j := j) r (by simpa using e)
theorem fdiv_nonneg {y z : Int} (hy : 0 ≤ y) (hz : 0 ≤ z) : 0 ≤ y.fdiv z := by
  rw [Int.fdiv_eq_ediv_of_nonneg _ hz]
  exact Int.ediv_nonneg hy hz
theorem Ins.len {c : Nat} {cs cs' : List Nat} (h : Ins c cs cs') : cs'.length = cs.length + 1 := by
  obtain ⟨p, hp, rfl⟩ := h
  simp
  omega
theorem Ins.count {c x : Nat} {cs cs' : List Nat} (h : Ins c cs cs') : cs'.count x = cs.count x + (if c = x then 1 else 0) := by
  obtain ⟨p, hp, rfl⟩ := h
  have e : cs.count x = (cs.take p).count x + (cs.drop p).count x := by rw [← List.count_append, List.take_append_drop]
  rw [List.count_append, List.count_append, e, List.count_singleton]
  by_cases hc : c = x
  · simp [hc]; omega
  · simp [hc]
theorem Ins.letters {c : Nat} {cs cs' : List Nat} (h : Ins c cs cs') (hL : Letters cs) (hc : c = 97 ∨ c = 65 ∨ c = 98 ∨ c = 66) : Letters cs' := by
  obtain ⟨p, hp, rfl⟩ := h
  intro x hx
  rcases List.mem_append.mp hx with hx | hx
  · rcases List.mem_append.mp hx with hx | hx
    · exact hL x (List.mem_of_mem_take hx)
    · rw [List.mem_singleton.mp hx]; exact hc
  · exact hL x (List.mem_of_mem_drop hx)
theorem mate_letter {c : Nat} (hc : c = 97 ∨ c = 65 ∨ c = 98 ∨ c = 66) : mate c = 97 ∨ mate c = 65 ∨ mate c = 98 ∨ mate c = 66 := by
  rcases hc with rfl | rfl | rfl | rfl <;> simp [mate]
theorem Bal.step {c k : Nat} {cs mid cs' : List Nat} (B : Bal cs k) (hc : c = 97 ∨ c = 98) (h1 : Ins c cs mid) (h2 : Ins (mate c) mid cs') : Bal cs' (k + 1) := by
  have hc4 : c = 97 ∨ c = 65 ∨ c = 98 ∨ c = 66 := by rcases hc with h | h <;> simp [h]
  refine ⟨h2.letters (h1.letters B.letters hc4) (mate_letter hc4), ?_, ?_, ?_⟩
  · rw [h2.len, h1.len, B.len]; omega
  · rw [h2.count, h2.count, h1.count, h1.count, B.a]
    rcases hc with rfl | rfl <;> simp [mate]
  · rw [h2.count, h2.count, h1.count, h1.count, B.b]
    rcases hc with rfl | rfl <;> simp [mate]
end
theorem off_E5 : True := by
  w_top off
  trivial
section
set_option maxHeartbeats 1000000
local macro_rules | `(tactic| walk_at "cut on") => `(tactic| skip)
noncomputable abbrev dwI1 (led : Led) (r : Addr) (d : Addr) (i : Nat) (m₁ : Str → Option Value) (led₁ : Led) : Prop := ∃ cs t, Bal cs i ∧ m₁ (Str.ofString "text") = some (.str (txt cs) t) ∧ m₁ (Str.ofString "ring") = some (.ref r) ∧ AccAt led₁ r d cs ∧ Keeps1 r led led₁
theorem dwI1_out {P : Prop} {led : Led} {r : Addr} {d : Addr} {i : Nat} {m₁ : Str → Option Value} {led₁ : Led} (H : dwI1 led r d i m₁ led₁) (kk : ∀ cs, ∀ t, (Bal cs i) → (m₁ (Str.ofString "text") = some (.str (txt cs) t)) → (m₁ (Str.ofString "ring") = some (.ref r)) → (AccAt led₁ r d cs) → (Keeps1 r led led₁) →  P) : P := by
  obtain ⟨z0, z1, z2, z3, z4, z5, z6⟩ := H
  exact kk z0 z1 z2 z3 z4 z5 z6
noncomputable abbrev dwI2 (n5 : Led) (r : Addr) (d : Addr) (cs : List Nat) (c : Nat) (j : Nat) (m₂ : Str → Option Value) (led₂ : Led) : Prop := ∃ csj tj yj uj, (j = 0 → csj = cs) ∧ (j = 1 → Ins c cs csj) ∧ (j = 2 → ∃ mid, Ins c cs mid ∧ Ins (mate c) mid csj) ∧ Letters csj ∧ csj.length = cs.length + j ∧ 0 ≤ yj ∧ m₂ (Str.ofString "text") = some (.str (txt csj) tj) ∧ m₂ (Str.ofString "ring") = some (.ref r) ∧ m₂ (Str.ofString "y") = some (.int yj uj) ∧ AccAt led₂ r d csj ∧ Keeps1 r n5 led₂
theorem dwI2_out {P : Prop} {n5 : Led} {r : Addr} {d : Addr} {cs : List Nat} {c : Nat} {j : Nat} {m₂ : Str → Option Value} {led₂ : Led} (H : dwI2 n5 r d cs c j m₂ led₂) (kk : ∀ csj, ∀ tj, ∀ yj, ∀ uj, ((j = 0 → csj = cs)) → ((j = 1 → Ins c cs csj)) → ((j = 2 → ∃ mid, Ins c cs mid ∧ Ins (mate c) mid csj)) → (Letters csj) → (csj.length = cs.length + j) → (0 ≤ yj) → (m₂ (Str.ofString "text") = some (.str (txt csj) tj)) → (m₂ (Str.ofString "ring") = some (.ref r)) → (m₂ (Str.ofString "y") = some (.int yj uj)) → (AccAt led₂ r d csj) → (Keeps1 r n5 led₂) →  P) : P := by
  obtain ⟨z0, z1, z2, z3, z4, z5, z6, z7, z8, z9, z10, z11, z12, z13, z14⟩ := H
  exact kk z0 z1 z2 z3 z4 z5 z6 z7 z8 z9 z10 z11 z12 z13 z14
noncomputable abbrev dwI3 (n8 : Led) (r : Addr) (d : Addr) (csj : List Nat) (pn : Nat) (e : Nat) (bw : List Value) (i : Nat) (m₃ : Str → Option Value) (led₃ : Led) : Prop := Pieces led₃ bw (csj.drop pn) ∧ AccAt led₃ r d (csj.take pn ++ [e] ++ (csj.drop pn).take i) ∧ Keeps1 r n8 led₃ ∧ m₃ (Str.ofString "ring") = some (.ref r) ∧ (∃ tz, m₃ (Str.ofString "text") = some (.str (txt (csj.take pn ++ [e] ++ csj.drop pn)) tz)) ∧ ∃ yz uz, 0 ≤ yz ∧ m₃ (Str.ofString "y") = some (.int yz uz)
theorem dwI3_out {P : Prop} {n8 : Led} {r : Addr} {d : Addr} {csj : List Nat} {pn : Nat} {e : Nat} {bw : List Value} {i : Nat} {m₃ : Str → Option Value} {led₃ : Led} (H : dwI3 n8 r d csj pn e bw i m₃ led₃) (kk : (Pieces led₃ bw (csj.drop pn)) → (AccAt led₃ r d (csj.take pn ++ [e] ++ (csj.drop pn).take i)) → (Keeps1 r n8 led₃) → (m₃ (Str.ofString "ring") = some (.ref r)) → ∀ tz, (m₃ (Str.ofString "text") = some (.str (txt (csj.take pn ++ [e] ++ csj.drop pn)) tz)) → ∀ yz, ∀ uz, (0 ≤ yz) → (m₃ (Str.ofString "y") = some (.int yz uz)) →  P) : P := by
  obtain ⟨z0, z1, z2, z3, ⟨z4, z5⟩, z6, z7, z8, z9⟩ := H
  exact kk z0 z1 z2 z3 z4 z5 z6 z7 z8 z9
theorem drawn_spec {w : World} {led : Led} {nl r d : Addr} {ws : Array Value} {n : Nat} {nums : List Int} (hm : (nl, listOf ws n) ∈ led) (hi : IntsAre ws.toList nums) (h0 : ∀ x ∈ nums, 0 ≤ x) (hlen : nums.length = 5) (H : AccAt led r d []) :
    Spec w 182 20 100 [.ref nl, .ref r] led (fun v led' => ∃ cs t, v = .str (txt cs) t ∧ Bal cs 5 ∧ AccAt led' r d cs ∧ Keeps1 r led led') := by
  intro mean mg mb dp un gd cn cs' a ccd cl outer A₀ base h₀ L m s Q E B F X N T hk hdp hu ret
  walk_at "my enter"
  walk_at "my upto"
  rename Fr _ _ _ _ => F1
  rename News _ _ _ _ => N1
  refine wpAny_For ?_ (fun _ => rfl)
  walk_at "my upto"
  refine for_list (Ok := Still s) (dwI1 led r d) rfl rfl rfl (fun _ _ _ => still_go _ _) ⟨_, _, rfl⟩ F1 N1 hm ?_ ?_ ?_ ?_
  · exact ⟨[], _, ⟨fun c hc => (nomatch hc), rfl, rfl, rfl⟩, rfl, rfl, H, fun p hp _ => hp⟩
  · rintro i m₁ led₁ led₂ hk ⟨cs, t, hB, hn1, hn2, H1, K1⟩
    exact ⟨cs, t, hB, hn1, hn2, H1.cls (by decide) (by decide) (by decide) fun p hp hc => hk p hp (.inr hc), fun p hp hne => hk p (K1 p hp hne) (.inl (led_le N1 p hp))⟩
  · intro i v m₁ led₁ s₁ HS
    refine still_out HS fun h2 tk2 => ?_
    clear HS s₁
    intro hv hm1 HX
    refine dwI1_out HX fun cs t hB hn1 hn2 H1 K1 => ?_
    clear HX
    intro F2 N2
    (try clear F1)
    (try clear N1)
    obtain ⟨y, ty, rfl, hyn⟩ := ints_at2 hi (by simpa using hv)
    have hy : 0 ≤ y := h0 y (List.mem_of_getElem? hyn)
    have hi5 : i < 5 := by rw [← hlen]; exact (List.getElem?_eq_some_iff.mp hyn).1
    have hlc : cs.length ≤ 8 := by have := hB.len; omega
    have hnr1 : ∀ p ∈ led₁, p.2.cls ≠ .ref 101 → p.1 ≠ r := fun p hp hc => by
      refine acc_open H1 fun _ _ _ _ _ _ hma _ _ => ?_
      exact News.ne N2 hp hma hc
    walk_at "my upto"
    rename Fr _ _ _ _ => F3
    rename News _ _ _ _ => N3
    obtain ⟨c, hc, e⟩ := item_ab (y := y)
    rw [e] at F3
    clear e
    rename (Txt.item _ _).length = 1 => e
    (try clear e)
    have hc4 : c = 97 ∨ c = 65 ∨ c = 98 ∨ c = 66 := by rcases hc with h | h <;> simp [h]
    refine wpAny_For ?_ (fun _ => rfl)
    walk_at "my upto"
    k_dflt (refine' (mate_spec (w := _) hc4).use ?B ?F ?X ?N ?T ?kK ?kd ?ku ?_)
    walk_at "use"
    intro v5 h5 tk5 n5 F5 N5 P5
    refine o_some (v := v5) P5 fun t5 K5 => ?_
    clear P5
    (try dsimp only)
    walk_at "my upto"
    rename Addr => T9
    rename Fr _ _ _ _ => F4
    rename News _ _ _ _ => N4
    have H5 : AccAt n5 r d cs := AccAt.mono H1 K5
    refine for_tuple (vs := [.str (sg c) _, .str (sg (mate c)) t5]) (k := 0) (Ok := Still s) (dwI2 n5 r d cs c)
      rfl rfl rfl (fun _ _ _ => still_go _ _) ⟨_, _, rfl⟩ F4 N4 List.mem_cons_self ⟨cs, t, _, _, fun _ => rfl, (fun h => nomatch h), (fun h => nomatch h), hB.letters, rfl, fdiv_nonneg hy (by decide), hn1, hn2, rfl, AccAt.mono H5 fun p hp => List.mem_cons_of_mem _ hp, fun p hp _ => List.mem_cons_of_mem _ hp⟩ ?_ ?_ ?_
    · rintro j m₂ led₂ led₃ hk ⟨csj, tj, yj, uj, j0, j1, j2, hLj, hlj, hyj, k1, k2, k3, H2, K2⟩
      exact ⟨csj, tj, yj, uj, j0, j1, j2, hLj, hlj, hyj, k1, k2, k3, H2.cls (by decide) (by decide) (by decide) fun p hp hc => hk p hp (.inr hc), fun p hp hne => hk p (K2 p hp hne) (.inl (led_le N4 p (List.mem_cons_of_mem _ hp)))⟩
    · intro j v m₂ led₂ s₂ HS
      refine still_out HS fun h3 tk3 => ?_
      clear HS s₂
      intro hv hmT HX
      refine dwI2_out HX fun csj tj yj uj j0 j1 j2 hLj hlj hyj k1 k2 k3 H2 K2 => ?_
      clear HX
      intro F5 N5
      (try clear F4)
      (try clear N4)
      have hj2 : j < 2 := by simpa using (List.getElem?_eq_some_iff.mp hv).1
      obtain ⟨e, te, rfl, he⟩ : ∃ e te, v = .str (sg e) te ∧ e = if j = 0 then c else mate c := by
        rcases j with _ | _ | j
        · exact ⟨c, _, by simpa using hv.symm, rfl⟩
        · exact ⟨mate c, _, by simpa using hv.symm, rfl⟩
        · omega
      have he4 : e = 97 ∨ e = 65 ∨ e = 98 ∨ e = 66 := by
        rw [he]
        split
        · exact hc4
        · exact mate_letter hc4
      have hx : (txt csj).length = csj.length := by simp [Str.length]
      have hx2 : (txt csj).length ≤ 20 := by omega
      have hz : ((txt csj).length : Int) + 1 ≠ 0 := by omega
      refine acc_open H2 fun vs n hsh t0 t0' k0 hmA hddA PA => ?_
      have hnr2 : ∀ p ∈ led₂, p.2.cls ≠ .ref 101 → p.1 ≠ r := fun p hp hc => News.ne N5 hp hmA hc
      obtain ⟨pn, ep, hpn⟩ : ∃ pn : Nat, yj.fmod ((txt csj).length + 1) = (pn : Int) ∧ pn ≤ csj.length := by
        rw [Int.fmod_eq_emod_of_nonneg _ (by omega)]
        have h1 := Int.emod_nonneg yj hz
        have h2 := Int.emod_lt_of_pos yj (show (0 : Int) < (txt csj).length + 1 by omega)
        exact ⟨(yj % ((txt csj).length + 1)).toNat, by omega, by omega⟩
      walk_at "my upto"
      rename Fr _ _ _ _ => F6
      rename News _ _ _ _ => N6
      rw [ep] at F6 ⊢
      rw [slice_to hpn, slice_fro hpn, txt_snoc, txt_append] at F6
      k_dflt (refine' (pop_from_spec (w := _) H2 (by omega) hpn).use ?B ?F ?X ?N ?T ?kK ?kd ?ku ?_)
      walk_at "use"
      intro v7 h7 tk7 n7 F7 N7 P7
      refine o_ref3 (v := v7) P7 fun b bw bk HK => ?_
      have hbm := HK.1
      have hbP := HK.2.1
      have H7 := HK.2.2.1
      have K7 := HK.2.2.2
      clear HK P7
      refine acc_open H7 fun vs7 n77 hsh7 t7 t7' k7 hm7 hd7 _ => ?_
      have hbr : b ≠ r := News.ne N7 hbm hm7 (fun e => nomatch e)
      have hnt : ∀ a vs n, (a, tupO vs n) ∈ n7 → a ≠ r := fun a vs n hp => News.ne N7 hp hm7 (fun e => nomatch e)
      (try dsimp only)
      walk_at "my upto"
      k_dflt (refine' (push_spec (w := _) H7 (by simp; omega)).use ?B ?F ?X ?N ?T ?kK ?kd ?ku ?_)
      walk_at "use"
      intro v8 h8 tk8 n8 F8 N8 P8
      refine o_is (v := v8) P8 fun HK => ?_
      have H8 := HK.1
      have K8 := HK.2
      clear HK P8
      have hbm8 := K8 _ hbm hbr
      have hbP8 : Pieces n8 bw (csj.drop pn) := Pieces.mono hbP fun a vs n hp => K8 _ hp (hnt _ _ _ hp)
      (try dsimp only)
      walk_at "my upto"
      rename Fr _ _ _ _ => F9
      rename News _ _ _ _ => N9
      refine wpAny_For ?_ (fun _ => rfl)
      walk_at "my upto"
      refine for_list (Ok := Still s) (dwI3 n8 r d csj pn e bw)
        rfl rfl rfl (fun _ _ _ => still_go _ _) ⟨_, _, rfl⟩ F9 N9 hbm8 ⟨hbP8, by simpa using H8, fun p hp _ => hp, k2, ⟨_, rfl⟩, _, _, fdiv_nonneg hyj (by omega), rfl⟩ ?_ ?_ ?_
      · rintro i m₃ led₃ led₄ hk ⟨q1, q2, q3, q4, q5, q6⟩
        exact ⟨q1.mono fun a vs n hp => hk _ hp (.inr (show Value.type "tuple" ≠ Value.type "list_iterator" by decide)), q2.cls (by decide) (by decide) (by decide) fun p hp hc => hk p hp (.inr hc), fun p hp hne => hk p (q3 p hp hne) (.inl (led_le N9 p hp)), q4, q5, q6⟩
      · intro i v m₃ led₃ s₃ HS
        refine still_out HS fun h4 tk4 => ?_
        clear HS s₃
        intro hv4 hb4 HX
        refine dwI3_out HX fun q1 q2 q3 q4 tz q5 yz uz q6 q7 => ?_
        clear HX
        intro Fa Na
        (try clear F9)
        (try clear N9)
        obtain ⟨c4, hc4', a4, u1, u2, n4, rfl, hm4⟩ := q1.get (i := i) (by simpa using hv4)
        refine acc_open q2 fun vs8 n88 hsh8 t8 t8' k8 hm8 hd8 _ => ?_
        have hnr : ∀ p ∈ led₃, p.2.cls ≠ .ref 101 → p.1 ≠ r := fun p hp hc => News.ne Na hp hm8 hc
        have hsz4 : (csj.take pn ++ [e] ++ (csj.drop pn).take i).length < 900 := by
          simp
          omega
        walk_at "my upto"
        k_dflt (refine' (push_spec (w := _) q2 hsz4).use ?B ?F ?X ?N ?T ?kK ?kd ?ku ?_)
        walk_at "use"
        intro v9 h9 tk9 n9 F9 N9 P9
        refine o_is (v := v9) P9 fun HK => ?_
        have H9 := HK.1
        have K9 := HK.2
        clear HK P9
        (try dsimp only)
        walk_at "my upto"
        rename Fr _ _ _ _ => Fb
        rename News _ _ _ n9 => Nb
        refine ⟨_, _, ⟨_, _, rfl⟩, Fb, Nb, fun p hp hc => K9 p hp (hnr p hp (by rw [hc]; decide)), fun p hp => ?_, q1.mono fun a vs n hp => K9 _ hp (hnr _ hp (show Value.type "tuple" ≠ Value.ref 101 by decide)), ?_, Keeps1.trans q3 K9, q4, ⟨tz, q5⟩, yz, uz, q6, q7⟩
        · rw [List.mem_singleton.mp hp]
          exact K9 _ hb4 hbr
        · rw [List.take_add_one, hc4', ← List.append_assoc]
          exact H9
      · intro m₃ led₃ s₃ HS
        refine still_out HS fun h4 tk4 => ?_
        clear HS s₃
        intro HX
        refine dwI3_out HX fun q1 q2 q3 q4 tz q5 yz uz q6 q7 => ?_
        clear HX
        intro Fa Na
        (try clear F9)
        (try clear N9)
        (try dsimp only)
        walk_at "my upto"
        have hfull : (csj.drop pn).take bw.toArray.size = csj.drop pn := List.take_of_length_le (by have := hbP8.length; simp at this ⊢; omega)
        rw [hfull] at q2
        have hins : Ins e csj (csj.take pn ++ [e] ++ csj.drop pn) := ⟨pn, hpn, rfl⟩
        have K2' : Keeps1 r led₂ led₃ := Keeps1.trans K7 (Keeps1.trans K8 q3)
        have hnt2 : ∀ p ∈ led₂, p.2.cls ≠ .ref 101 → p.1 ≠ r := hnr2
        refine ⟨_, _, ⟨_, _, rfl⟩, Fa, Na, fun p hp hc => K2' p hp (hnt2 p hp (by rw [hc]; decide)), fun p hp => ?_, csj.take pn ++ [e] ++ csj.drop pn, tz, yz, uz, (fun h => nomatch h), fun h => ?_, fun h => ?_, hins.letters hLj he4, by rw [hins.len, hlj]; omega, q6, q5, q4, q7, q2, Keeps1.trans K2 K2'⟩
        · rw [List.mem_singleton.mp hp]
          exact K2' _ hmT (hnt2 _ hmT (show Value.type "tuple" ≠ Value.ref 101 by decide))
        · have hj : j = 0 := by omega
          rw [← j0 hj]
          rw [hj] at he
          simp at he
          rw [← he]
          exact hins
        · have hj : j = 1 := by omega
          refine ⟨csj, j1 hj, ?_⟩
          rw [hj] at he
          simp at he
          rw [← he]
          exact hins
    · intro m₂ led₂ s₂ HS
      refine still_out HS fun h3 tk3 => ?_
      clear HS s₂
      intro HX
      refine dwI2_out HX fun csj tj yj uj j0 j1 j2 hLj hlj hyj k1 k2 k3 H2 K2 => ?_
      clear HX
      intro F5 N5
      (try clear F4)
      (try clear N4)
      (try dsimp only)
      walk_at "my upto"
      obtain ⟨mid, i1, i2⟩ := j2 rfl
      have K3 : Keeps1 r led₁ led₂ := Keeps1.trans (fun p hp _ => K5 p hp) K2
      refine ⟨_, _, ⟨_, _, rfl⟩, F5, N5, fun p hp hc => K3 p hp (hnr1 p hp (by rw [hc]; decide)), fun p hp => ?_, csj, tj, hB.step hc i1 i2, k1, k2, H2, Keeps1.trans K1 K3⟩
      rw [List.mem_singleton.mp hp]
      exact K3 _ hm1 (hnr1 _ hm1 (show Value.type "list" ≠ Value.ref 101 by decide))
  · intro m₁ led₁ s₁ HS
    refine still_out HS fun h2 tk2 => ?_
    clear HS s₁
    intro HX
    refine dwI1_out HX fun cs t hB hn1 hn2 H1 K1 => ?_
    clear HX
    intro F2 N2
    (try clear F1)
    (try clear N1)
    (try dsimp only)
    walk_at "my upto"
    rename Fr h₀ L _ _ => kF
    rename News h₀ L _ _ => kN
    have h5 : ws.size = 5 := by
      have := hi.length
      simp at this
      omega
    rw [h5] at hB
    exact ret _ _ _ _ kF kN ⟨cs, t, rfl, hB, H1, K1⟩
end
theorem off_E7 : True := by
  w_top off
  trivial
section
set_option maxHeartbeats 1000000
local macro_rules | `(tactic| walk_at "cut on") => `(tactic| skip)
noncomputable def redStep (st : List Nat) (c : Nat) : List Nat := match st.getLast? with
  | none => [c]
  | some x => if subN x c = 1 then st.dropLast else st ++ [c]
theorem subV_empty {c : Nat} (hc : c = 97 ∨ c = 65 ∨ c = 98 ∨ c = 66) : subV (Str.ofString "") (sg c) = 2 := by
  rcases hc with rfl | rfl | rfl | rfl <;> decide +kernel
theorem redStep_snoc {st : List Nat} {x c : Nat} : redStep (st ++ [x]) c = if subN x c = 1 then st else st ++ [x] ++ [c] := by
  simp [redStep]
theorem red_take {cs : List Nat} {i c : Nat} (h : cs[i]? = some c) : (cs.take (i + 1)).foldl redStep [] = redStep ((cs.take i).foldl redStep []) c := by
  rw [List.take_add_one, h]
  simp
theorem red_len : ∀ (cs st : List Nat), (cs.foldl redStep st).length ≤ st.length + cs.length
  | [], st => by simp
  | c :: cs, st => by
    have h := red_len cs (redStep st c)
    have h2 : (redStep st c).length ≤ st.length + 1 := by
      unfold redStep
      split
      · simp
      · split
        · simp; omega
        · simp
    simp only [List.foldl_cons, List.length_cons]
    omega
noncomputable def trimW : Nat → List Nat → List Nat
  | 0, w => w
  | k + 1, w => if subV (txt (w.take 1)) (txt (w.drop (w.length - 1))) = 1 then trimW k (w.dropLast.drop 1) else w
theorem slice_first (l : List Nat) : Txt.slice (txt l) none (some 1) = txt (l.take 1) := by
  cases l with
  | nil => decide +kernel
  | cons c l => exact slice_to (p := 1) (by simp)
theorem slice_last (l : List Nat) : Txt.slice (txt l) (some (-1)) none = txt (l.drop (l.length - 1)) := by
  cases l with
  | nil => decide +kernel
  | cons c l =>
    have e := eq_of_beq (slice_closes_from_neg (x := txt (c :: l)) (i := -1) (a := (l.length : Int)) (b := (l.length : Int) + 1) (by decide) (by simp [Str.length]; omega) (by simp [Str.length]; omega) (by simp [Str.length]))
    rw [e]
    have h1 : ((l.length : Int) + 1 - (l.length : Int)).toNat = 1 := by omega
    rw [h1]
    simp only [Int.toNat_natCast, txt, List.length_cons, Nat.add_sub_cancel]
    exact congrArg (fun a : List Nat => (⟨a.toArray⟩ : Str)) (List.take_of_length_le (by simp))
theorem trim_two {wd : List Nat} (h : subV (txt (wd.take 1)) (txt (wd.drop (wd.length - 1))) = 1) : ∃ wd' c, wd = wd' ++ [c] ∧ 1 ≤ wd'.length := by
  rcases snoc_cases wd with rfl | ⟨wd', c, rfl⟩
  · exact absurd h (by decide +kernel)
  · refine ⟨wd', c, rfl, ?_⟩
    cases wd' with
    | nil =>
      exfalso
      simp [subV] at h
    | cons x r => simp
theorem trimW_stop {wd : List Nat} {k : Nat} (h : ¬ subV (txt (wd.take 1)) (txt (wd.drop (wd.length - 1))) = 1) : trimW k wd = wd := by
  cases k with
  | zero => rfl
  | succ k => unfold trimW; rw [if_neg h]
/-- what is left of a ring -/
noncomputable def coreW (cs : List Nat) : List Nat := trimW cs.length (cs.foldl redStep [])
theorem Tabs.keep {led led' : Led} {x dx : Addr} (T : Tabs led) (h1 : x ≠ 70 ∧ dx ≠ 70) (h2 : x ≠ 63 ∧ dx ≠ 63) (K : ∀ p ∈ led, p.1 ≠ x → p.1 ≠ dx → p ∈ led') : Tabs led' := by
  obtain ⟨ps, ps', a1, b1, a2, b2⟩ := T.out
  exact ⟨ps, ps', K _ a1 (Ne.symm h1.1) (Ne.symm h1.2), b1, K _ a2 (Ne.symm h2.1) (Ne.symm h2.2), b2⟩
noncomputable abbrev coI1 (led : Led) (dx : Addr) (cs : List Nat) (x : Addr) (hsh2 : Int) (t2 : Tok) (t2' : Tok) (i : Nat) (m₁ : Str → Option Value) (led₁ : Led) : Prop := m₁ (Str.ofString "core") = some (.ref x) ∧ AccAt led₁ x dx ((cs.take i).foldl redStep []) ∧ Keeps1 x ((x, accO dx [] 0) :: (dx, szO hsh2 t2 t2' 1) :: led) led₁
theorem coI1_out {P : Prop} {led : Led} {dx : Addr} {cs : List Nat} {x : Addr} {hsh2 : Int} {t2 : Tok} {t2' : Tok} {i : Nat} {m₁ : Str → Option Value} {led₁ : Led} (H : coI1 led dx cs x hsh2 t2 t2' i m₁ led₁) (kk : (m₁ (Str.ofString "core") = some (.ref x)) → (AccAt led₁ x dx ((cs.take i).foldl redStep [])) → (Keeps1 x ((x, accO dx [] 0) :: (dx, szO hsh2 t2 t2' 1) :: led) led₁) →  P) : P := by
  obtain ⟨z0, z1, z2⟩ := H
  exact kk z0 z1 z2
noncomputable abbrev coI2 (led : Led) (dx : Addr) (cs : List Nat) (x : Addr) (k : Nat) (m₂ : Str → Option Value) (led₂ : Led) : Prop := ∃ wd tw, AccAt led₂ x dx wd ∧ (wd.length ≤ k ∧ wd.length ≤ 20) ∧ trimW k wd = trimW cs.length (cs.foldl redStep []) ∧ m₂ (Str.ofString "core") = some (.ref x) ∧ m₂ (Str.ofString "word") = some (.str (txt wd) tw) ∧ Tabs led₂ ∧ ∀ p ∈ led, p.1 ≠ 70 → p ∈ led₂
theorem coI2_out {P : Prop} {led : Led} {dx : Addr} {cs : List Nat} {x : Addr} {k : Nat} {m₂ : Str → Option Value} {led₂ : Led} (H : coI2 led dx cs x k m₂ led₂) (kk : ∀ wd, ∀ tw, (AccAt led₂ x dx wd) → (wd.length ≤ k) → (wd.length ≤ 20) → (trimW k wd = trimW cs.length (cs.foldl redStep [])) → (m₂ (Str.ofString "core") = some (.ref x)) → (m₂ (Str.ofString "word") = some (.str (txt wd) tw)) → (Tabs led₂) → (∀ p ∈ led, p.1 ≠ 70 → p ∈ led₂) →  P) : P := by
  obtain ⟨z0, z1, z2, ⟨z3, z4⟩, z5, z6, z7, z8, z9⟩ := H
  exact kk z0 z1 z2 z3 z4 z5 z6 z7 z8 z9
theorem core_spec {w : World} {led : Led} {r d : Addr} {cs : List Nat} (H : AccAt led r d cs) (hl : cs.length < 20) (hL : Letters cs) (HT : Tabs led) :
    SpecG w 210 40 200 [.ref r] led (fun v led' => ∃ x dx, v = .ref x ∧ AccAt led' x dx (coreW cs) ∧ (∀ p ∈ led, p.1 ≠ 70 → p ∈ led') ∧ Tabs led' ∧ ∀ p ∈ led, p.1 ≠ x ∧ p.1 ≠ dx) := by
  intro mean mg mb dp un gd cn cs' a ccd cl outer A₀ base h₀ L m s Q E B F X N T hk hdp hu G ret
  refine acc_open H fun vs n hsh t t' k hm hdd P => ?_
  walk_at "my enter"
  walk_at "my upto"
  k_dflt (refine' new_acc2 _ _ _ _ _ _ _ _ _ _ _ _ _ _ _ _ _ _ _ _ _ _ ?B ?F ?X ?N ?T ?kK ?kd ?ku ?_)
  walk_at "use"
  intro x dx h2 tk2 hsh2 t2 t2' hx F2 N2
  (try dsimp only)
  walk_at "my upto"
  rename Fr _ _ _ _ => F3
  rename News _ _ _ _ => N3
  rename (hd.heap_1 w.params).In _ => X3
  refine wpAny_For ?_ (fun _ => rfl)
  walk_at "my upto"
  have hrx : r ≠ x := Nat.ne_of_lt (hx _ hm).1
  refine for_acc (Ok := Still s) (coI1 led dx cs x hsh2 t2 t2') rfl rfl rfl (fun _ _ _ => still_go _ _) ⟨_, _, rfl⟩ X3 F3 N3 (List.mem_cons_of_mem _ (List.mem_cons_of_mem _ hm)) ⟨rfl, ?_, fun p hp _ => hp⟩ ?_ ?_ ?_
  · exact ⟨⟨[], 0, _, _, _, _, List.mem_cons_self, List.mem_cons_of_mem _ List.mem_cons_self, trivial⟩⟩
  · rintro i m₁ led₁ led₂ hk2 ⟨q1, q2, q3⟩
    exact ⟨q1, q2.cls (by decide) (by decide) (by decide) fun p hp hc => hk2 p hp (.inr hc), fun p hp hne => hk2 p (q3 p hp hne) (.inl (led_le N3 p hp))⟩
  · intro i v m₁ led₁ s₁ HS
    refine still_out HS fun h3 tk3 => ?_
    clear HS s₁
    intro hv hm1 HX
    refine coI1_out HX fun q1 q2 q3 => ?_
    clear HX
    intro F4 N4
    (try clear F3)
    have hlt : i < cs.length := by rw [← P.length]; exact (List.getElem?_eq_some_iff.mp hv).1
    obtain ⟨c, hc, a4, u1, u2, n4, rfl, hm4⟩ := P.get hv
    refine acc_open q2 fun vs2 n2 hsh3 t3 t3' k3 hmx hdx P2 => ?_
    have hnx : ∀ p ∈ led₁, p.2.cls ≠ .ref 101 → p.1 ≠ x := fun p hp hc => News.ne N4 hp hmx hc
    have hm4' := q3 _ (List.mem_cons_of_mem _ (List.mem_cons_of_mem _ hm4)) (Nat.ne_of_lt (hx _ hm4).1)
    have hlen : ((cs.take i).foldl redStep []).length < 900 := by have := red_len (cs.take i) []; simp at this; omega
    walk_at "my upto"
    k_dflt (refine' (pop_spec (w := _) q2 hlen).use ?B ?F ?X ?N ?T ?kK ?kd ?ku ?_)
    walk_at "use"
    intro v5 h5 tk5 n5 F5 N5 P5
    obtain ⟨K5, hP5⟩ := P5
    have hm5 := K5 _ hm4' (hnx _ hm4' (show Value.type "tuple" ≠ Value.ref 101 by decide))
    rcases hP5 with ⟨e0, H5, a5, w1, w2, n6, rfl, hm6⟩ | ⟨st', x0, e0, H5, a5, w1, w2, n6, rfl, hm6⟩
    · (try dsimp only)
      walk_at "my upto"
      k_dflt (refine' (sub_spec (w := _) (Str.ofString "") (sg c) _ _ (by decide) (Nat.le_refl 1)).use ?B ?F ?X ?N ?T ?kK ?kd ?ku ?_)
      walk_at "use"
      intro v6 h6 tk6 n6' F6 N6 P6
      refine o_some (v := v6) P6 fun t6 K6 => ?_
      clear P6
      rw [subV_empty (hL c (List.mem_of_getElem? hc))]
      have hm7 := K6 _ hm6
      have hm8 := K6 _ hm5
      have H6 := AccAt.mono H5 K6
      refine acc_open H6 fun vs6 n66 hsh6 t66 t66' k6 hm66 hd66 _ => ?_
      (try dsimp only)
      walk_at "my upto"
      k_dflt (refine' (push_spec (w := _) H6 (by simp)).use ?B ?F ?X ?N ?T ?kK ?kd ?ku ?_)
      walk_at "use"
      intro v7 h7 tk7 n7 F7 N7 P7
      refine o_is (v := v7) P7 fun HK => ?_
      have H7 := HK.1
      have K7 := HK.2
      clear HK P7
      (try dsimp only)
      walk_at "my upto"
      rename Fr _ _ _ _ => F8
      rename News _ _ _ n7 => N8
      have Kall : Keeps1 x led₁ n7 := fun p hp hne => K7 _ (K6 _ (K5 p hp hne)) hne
      refine ⟨_, _, ⟨_, _, rfl⟩, F8, N8, fun p hp hc => Kall p hp (hnx p hp (by rw [hc]; decide)), fun p hp => ?_, q1, ?_, Keeps1.trans q3 Kall⟩
      · rw [List.mem_singleton.mp hp]
        exact Kall _ hm1 hrx
      · rw [red_take hc, e0]
        exact H7
    · (try dsimp only)
      walk_at "my upto"
      k_dflt (refine' (sub_spec (w := _) (sg x0) (sg c) _ _ (Nat.le_refl 1) (Nat.le_refl 1)).use ?B ?F ?X ?N ?T ?kK ?kd ?ku ?_)
      walk_at "use"
      intro v6 h6 tk6 n6' F6 N6 P6
      refine o_some (v := v6) P6 fun t6 K6 => ?_
      clear P6
      rw [subV_sg]
      have hnx5 : ∀ p ∈ n6', p.2.cls ≠ .ref 101 → p.1 ≠ x := fun p hp hc => by
        refine acc_open (AccAt.mono H5 K6) fun _ _ _ _ _ _ hma _ _ => ?_
        exact News.ne N6 hp hma hc
      have hm7 := K6 _ hm6
      have hm8 := K6 _ hm5
      have H6 := AccAt.mono H5 K6
      refine acc_open H6 fun vs6 n66 hsh6 t66 t66' k6 hm66 hd66 _ => ?_
      have hx0 : (sg x0 == Str.ofString "") = false := by
        rw [beq_eq_false_iff_ne]
        intro h
        have := congrArg (fun s : Str => s.cps.size) h
        revert this
        show ¬ (1 = (Str.ofString "").cps.size)
        rw [show (Str.ofString "").cps.size = 0 from by decide +kernel]
        decide
      (try dsimp only)
      walk_at "my upto"
      · rename (subN x0 c : Int) ≠ 1 => hne1
        k_dflt (refine' (push_spec (w := _) H6 (by have := congrArg List.length e0; simp at this; omega)).use ?B ?F ?X ?N ?T ?kK ?kd ?ku ?_)
        walk_at "use"
        intro v7 h7 tk7 n7 F7 N7 P7
        refine o_is (v := v7) P7 fun HK => ?_
        have H7 := HK.1
        have K7 := HK.2
        clear HK P7
        have hm9 := K7 _ hm8 (hnx5 _ hm8 (show Value.type "tuple" ≠ Value.ref 101 by decide))
        refine acc_open H7 fun vs7 n77 hsh7 t77 t77' k7 hm77 hd77 _ => ?_
        (try dsimp only)
        walk_at "my upto"
        k_dflt (refine' (push_spec (w := _) H7 (by have := congrArg List.length e0; simp at this ⊢; omega)).use ?B ?F ?X ?N ?T ?kK ?kd ?ku ?_)
        walk_at "use"
        intro v9 h9 tk9 n9 F9 N9 P9
        refine o_is (v := v9) P9 fun HK => ?_
        have H9 := HK.1
        have K9 := HK.2
        clear HK P9
        (try dsimp only)
        walk_at "my upto"
        rename Fr _ _ _ _ => F8
        rename News _ _ _ n9 => N8
        have Kall : Keeps1 x led₁ n9 := fun p hp hne => K9 _ (K7 _ (K6 _ (K5 p hp hne)) hne) hne
        refine ⟨_, _, ⟨_, _, rfl⟩, F8, N8, fun p hp hc => Kall p hp (hnx p hp (by rw [hc]; decide)), fun p hp => ?_, q1, ?_, Keeps1.trans q3 Kall⟩
        · rw [List.mem_singleton.mp hp]
          exact Kall _ hm1 hrx
        · rw [red_take hc, e0, redStep_snoc, if_neg (by omega)]
          exact H9
      · rename (sg x0 != Str.ofString "") = false => hbad
        rw [bne, hx0] at hbad
        cases hbad
      · rename (subN x0 c : Int) = 1 => heq1
        rename Fr _ _ _ _ => F8
        rename News _ _ _ n6' => N8
        have Kall : Keeps1 x led₁ n6' := fun p hp hne => K6 _ (K5 p hp hne)
        refine ⟨_, _, ⟨_, _, rfl⟩, F8, N8, fun p hp hc => Kall p hp (hnx p hp (by rw [hc]; decide)), fun p hp => ?_, q1, ?_, Keeps1.trans q3 Kall⟩
        · rw [List.mem_singleton.mp hp]
          exact Kall _ hm1 hrx
        · rw [red_take hc, e0, redStep_snoc, if_pos (by omega)]
          exact H6
  · intro m₁ led₁ s₁ HS
    refine still_out HS fun h3 tk3 => ?_
    clear HS s₁
    intro HX
    refine coI1_out HX fun q1 q2 q3 => ?_
    clear HX
    intro F4 N4
    (try clear F3)
    rw [show vs.length = cs.length from P.length, List.take_of_length_le (Nat.le_refl _)] at q2
    refine acc_open q2 fun vs2 n2 hsh3 t3 t3' k3 hmx hdx P2 => ?_
    (try dsimp only)
    walk_at "my upto"
    have HT1 : Tabs led₁ := by
      obtain ⟨ps, ps', a1, b1, a2, b2⟩ := HT.out
      exact ⟨ps, ps', q3 _ (List.mem_cons_of_mem _ (List.mem_cons_of_mem _ a1)) (Nat.ne_of_lt (hx _ a1).1), b1, q3 _ (List.mem_cons_of_mem _ (List.mem_cons_of_mem _ a2)) (Nat.ne_of_lt (hx _ a2).1), b2⟩
    have hrl : (cs.foldl redStep []).length ≤ cs.length := by have := red_len cs []; simpa using this
    have hK0 : ∀ p ∈ led, p ∈ led₁ := fun p hp => q3 _ (List.mem_cons_of_mem _ (List.mem_cons_of_mem _ hp)) (Nat.ne_of_lt (hx _ hp).1)
    k_dflt (refine' accL_str ?zF ?zX ?zN hmx hdx ?zu ?_)
    case zF => k_asm
    case zX => k_asm
    case zN => k_asm
    case zu => ktr_units
    k_dflt (refine' (str_spec (w := _) q2 (by omega) HT1).use ?B ?F ?X ?N ?T ?kK ?kd ?ku ?G ?_)
    case G => exact G
    walk_at "use"
    intro v5 s5 n5 F5 N5 G5 os5 P5
    refine o_some (v := v5) P5 fun t5 HK => ?_
    have K5 := HK.1
    have T5 := HK.2
    clear HK P5
    have H5 : AccAt n5 x dx (cs.foldl redStep []) := by
      obtain ⟨ps, ps', a1, b1, a2, b2⟩ := HT1.out
      exact q2.but N4 a1 rfl K5
    show wpAny _ _ _ _ _ _
    (try dsimp only)
    walk_at "my upto"
    rename Fr _ _ _ _ => F6
    rename News _ _ _ n5 => N6
    have hx63 : x ≠ 63 ∧ dx ≠ 63 := by
      obtain ⟨ps, ps', a1, b1, a2, b2⟩ := HT.out
      exact ⟨Ne.symm (Nat.ne_of_lt (hx _ a2).1), Ne.symm (Nat.ne_of_lt (hx _ a2).2)⟩
    have hx70 : x ≠ 70 ∧ dx ≠ 70 := by
      obtain ⟨ps, ps', a1, b1, a2, b2⟩ := HT.out
      exact ⟨Ne.symm (Nat.ne_of_lt (hx _ a1).1), Ne.symm (Nat.ne_of_lt (hx _ a1).2)⟩
    refine while_led (Ok := Stir s) (n₀ := cs.length) (coI2 led dx cs x)
      ⟨G5, os5⟩ F6 N6 ⟨_, _, H5, ⟨hrl, by omega⟩, rfl, q1, rfl, T5, fun p hp hne => K5 p (hK0 p hp) hne⟩ ?_
    intro k m₂ led₂ s₂ HS
    have G7 := HS.1
    have os7 := HS.2
    clear HS
    intro F7 N7 HX
    refine coI2_out HX fun wd tw H7 hk7 hwl9 htr r1 r2 T7 hK7 => ?_
    clear HX
    (try clear F6)
    (try clear N6)
    have hwl : (txt wd).length ≤ 20 := by simpa [Str.length] using hwl9
    refine acc_open H7 fun vs7 n77 hsh7 t77 t77' k77 hm77 hd77 P77 => ?_
    walk_at "my upto"
    rw [slice_first, slice_last]
    k_dflt (refine' (sub_spec (w := _) (txt (wd.take 1)) (txt (wd.drop (wd.length - 1))) _ _ (by simp [Str.length]; omega) (by simp [Str.length]; omega)).use ?B ?F ?X ?N ?T ?kK ?kd ?ku ?_)
    walk_at "use"
    intro v6 h6 tk6 n6' F6 N6 P6
    refine o_some (v := v6) P6 fun t6 K6 => ?_
    clear P6
    have H6 := AccAt.mono H7 K6
    refine acc_open H6 fun vs6 n66 hsh6 t66 t66' k66 hm66 hd66 P66 => ?_
    (try dsimp only)
    walk_at "my upto"
    · rename subV _ _ = 1 => hone
      obtain ⟨wd', c, rfl, hw1⟩ := trim_two hone
      obtain ⟨k', rfl⟩ : ∃ k', k = k' + 1 := ⟨k - 1, by simp at hk7; omega⟩
      have hstep : trimW (k' + 1) (wd' ++ [c]) = trimW k' (wd'.drop 1) := by
        show (if subV (txt ((wd' ++ [c]).take 1)) (txt ((wd' ++ [c]).drop ((wd' ++ [c]).length - 1))) = 1 then trimW k' ((wd' ++ [c]).dropLast.drop 1) else _) = _
        rw [if_pos hone, List.dropLast_concat]
      have hwl8 : wd'.length ≤ 20 := by simp at hwl9; omega
      have hk8 : wd'.length ≤ k' := by simp at hk7; omega
      (try dsimp only)
      k_dflt (refine' (pop_spec (w := _) H6 (by simp; omega)).use ?B ?F ?X ?N ?T ?kK ?kd ?ku ?_)
      walk_at "use"
      intro v8 h8 tk8 n8 F8 N8 P8
      obtain ⟨K8, hP8⟩ := P8
      have H8 : AccAt n8 x dx wd' := by
        rcases hP8 with ⟨e0, _⟩ | ⟨st', x0, e0, Hs, _⟩
        · simp at e0
        · rw [(List.append_inj' e0 rfl).1]
          exact Hs
      clear hP8
      refine acc_open H8 fun vs8 n88 hsh8 t88 t88' k88 hm88 hd88 P88 => ?_
      (try dsimp only)
      walk_at "my upto"
      k_dflt (refine' (pop_from_spec (w := _) (i := 1) H8 (by omega) hw1).use ?B ?F ?X ?N ?T ?kK ?kd ?ku ?_)
      walk_at "use"
      intro v9 h9 tk9 n9 F9 N9 P9
      refine o_ref3 (v := v9) P9 fun b bw bk HK => ?_
      have hbm := HK.1
      have hbP := HK.2.1
      have H9 := HK.2.2.1
      have K9 := HK.2.2.2
      clear HK P9
      (try dsimp only)
      walk_at "my upto"
      k_dflt (refine' (reset_spec (w := _) H9 (by simp; omega) hbm hbP (by simp; omega)).use ?B ?F ?X ?N ?T ?kK ?kd ?ku ?_)
      walk_at "use"
      intro va ha tka na Fa Na Pa
      refine o_is (v := va) Pa fun HK => ?_
      have Ha := HK.1
      have Ka := HK.2
      clear HK Pa
      have Kx : ∀ p ∈ led₂, p.1 ≠ x → p.1 ≠ dx → p ∈ na := fun p hp h1 h2 => Ka p (K9 p (K8 p (K6 p hp) h1) h1) h1 h2
      have Ta : Tabs na := T7.keep hx70 hx63 Kx
      refine acc_open Ha fun vsa naa hsha taa taa' kaa hmaa hdaa Paa => ?_
      have Nsave := Na
      (try dsimp only)
      walk_at "my upto"
      k_dflt (refine' accL_str ?yF ?yX ?yN hmaa hdaa ?yu ?_)
      case yF => k_asm
      case yX => k_asm
      case yN => k_asm
      case yu => ktr_units
      k_dflt (refine' (str_spec (w := _) Ha (by simp; omega) Ta).use ?B ?F ?X ?N ?T ?kK ?kd ?ku ?G ?_)
      case G => exact G7
      walk_at "use"
      intro vb sb nb Fb Nb Gb osb Pb
      refine o_some (v := vb) Pb fun tb HK => ?_
      have Kb := HK.1
      have Tb := HK.2
      clear HK Pb
      have Hb : AccAt nb x dx (wd'.drop 1) := by
        obtain ⟨ps, ps', a1, b1, a2, b2⟩ := Ta.out
        exact Ha.but Nsave a1 rfl Kb
      show wpAny _ _ _ _ _ _
      (try dsimp only)
      walk_at "my upto"
      rename Fr _ _ _ _ => Fc
      rename News _ _ _ nb => Nc
      refine ⟨_, nb, k', ⟨Gb, osb.trans os7⟩, Fc, Nc, Nat.lt_succ_self _, wd'.drop 1, tb, Hb, ⟨by simp; omega, by simp; omega⟩, hstep.symm.trans htr, r1, rfl, Tb, fun p hp h70 => Kb p (Kx p (hK7 p hp h70) (Nat.ne_of_lt (hx p hp).1) (Nat.ne_of_lt (hx p hp).2)) h70⟩
    · rename subV _ _ ≠ 1 => hone
      rename Fr h₀ L _ _ => kF
      rename News h₀ L _ _ => kN
      have e : wd = coreW cs := by
        rw [← trimW_stop (k := k) hone]
        exact htr
      exact ret _ _ _ kF kN G7 os7 ⟨x, dx, rfl, e ▸ H6, fun p hp h70 => K6 p (hK7 p hp h70), T7.keep hx70 hx63 (fun p hp _ _ => K6 p hp), fun p hp => ⟨Nat.ne_of_lt (hx p hp).1, Nat.ne_of_lt (hx p hp).2⟩⟩
end
section
set_option maxHeartbeats 1000000
noncomputable abbrev isRangeIt (n : Nat) (i : Nat) (o : Obj) : Prop := o = { cls := .type "range_iterator", dict := none, data := .fields #[rawInt (0 + (i : Nat) * 1), rawInt ((n : Int) - (i : Nat)), rawInt 1], slots := #[] }
theorem srcRange {prog : Program} {w : World} {A : Around} (hh : A.handled = none) {I : Addr} (n : Nat) : Src prog w A I [] n (fun i v => i < n ∧ ∃ t, v = .int (0 + (i : Nat) * 1) t) (isRangeIt n) :=
  .ofWalks (St := fun i h => IsRangeIter h I (0 + (i : Nat) * 1) ((n : Int) - (i : Nat)) 1) (Walks.range hh I 0 1 n).bound (fun i h st => ⟨_, st, rfl⟩) fun i h o e hit hn => by subst hit; exact e
section
variable {prog : Program} {w : World} {A : Around} {E : Value → Shared → Prop} {s : Shared} {env : Env} {h₀ : Heap} {m : Str → Option Value} {led : Led}
theorem for_range {R : Result → Shared → Prop} {x : Str} {px : Pos} {body : List Stmt} {Ok : Shared → Prop} {ar : Addr} {b : Int} {t u v : Tok} {n : Nat} (J : Nat → (Str → Option Value) → Led → Prop)
    (hb : b = (n : Int)) (hn : n ≤ 1000)
    (hh : A.handled = none) (hx : env.kindOf x = some .local) (hp : (env.scope.kind == .class || (env.scope.kind == .module && env.locals != env.globals)) = false)
    (hgo : ∀ s₁ h tk, Ok s₁ → Ok { s₁ with heap := h, toks := tk }) (hs : Ok s) (F : Fr h₀ env.locals s.heap m) (N : News h₀ env.locals s.heap led) (hr : IsRange s.heap ar 0 b 1 t u v) (hJ : J 0 m led)
    (stable : ∀ i m₁ led₁ led₂, (∀ p ∈ led₁, (p.1 < s.heap.objs.size ∨ p.2.cls ≠ .type "range_iterator") → p ∈ led₂) → J i m₁ led₁ → J i m₁ led₂)
    (step : ∀ i t m₁ led₁ s₁, Ok s₁ → i < n → J i m₁ led₁ → Fr h₀ env.locals s₁.heap (fun y => if y = x then some (.int (i : Nat) t) else m₁ y) → News h₀ env.locals s₁.heap led₁ →
      wpAny (model prog w) A (execs body env) (GStep Ok h₀ env.locals (.type "range_iterator") [] led₁ (J (i + 1))) No s₁)
    (done : ∀ m₁ led₁ s₁, Ok s₁ → J n m₁ led₁ → Fr h₀ env.locals s₁.heap m₁ → News h₀ env.locals s₁.heap led₁ → R (.ok .next) s₁) :
    wpAny (model prog w) A (pyIter (.ref ar)) (fun it s₂ => codeAny (model prog w) A (.forLoop (.Name x px) it body [] env) R s₂) E s := by
  subst hb
  refine wpAny_pyIter_range hr (small_one (by omega) (by omega) (by omega) (by omega)) ?_
  rw [rangeSize_nat]
  refine for_go (ic := .type "range_iterator") J (srcRange hh n) (fun i o h => by rw [h]) hx hp hgo hs F N (by simp [isRangeIt]) rfl (fun p hp => nomatch hp) hJ stable (fun i v m₁ led₁ s₁ hs₁ hi hP hn hJ₁ F₁ N₁ => ?_) done
  obtain ⟨_, t, rfl⟩ := hP
  exact step i t m₁ led₁ s₁ hs₁ hi hJ₁ (by simpa using F₁) N₁
end
end
theorem off_F1 : True := by
  w_top off
  trivial
section
set_option maxHeartbeats 1000000
noncomputable def backOf (l : List Nat) : List Nat := (l.map mate).reverse
noncomputable def cutAt (back rest : List Nat) (half j i : Nat) : Nat := if back.drop (half - i) ++ (back.drop (half - j)).take (j - i) ++ back.take (half - j) = rest then (if 0 < i ∧ i < j ∧ j < half then 2 else 1) else 0
noncomputable def sumTo (f : Nat → Nat) : Nat → Nat
  | 0 => 0
  | n + 1 => sumTo f n + f n
noncomputable def cutsT (back rest : List Nat) (half : Nat) : Nat := sumTo (fun j => sumTo (cutAt back rest half j) (j + 1)) (half + 1)
noncomputable def turnAt (cs : List Nat) (t : Nat) : List Nat := cs.drop t ++ cs.take t
noncomputable def cuts (cs : List Nat) : Nat := sumTo (fun t => cutsT (backOf ((turnAt cs t).take (cs.length / 2))) ((turnAt cs t).drop (cs.length / 2)) (cs.length / 2)) (cs.length / 2)
theorem sg_txt (c : Nat) : sg c = txt [c] := rfl
theorem slice_mid {l : List Nat} {p q : Nat} (h1 : p ≤ q) (h2 : q ≤ l.length) : Txt.slice (txt l) (some (p : Int)) (some (q : Int)) = txt ((l.drop p).take (q - p)) := by
  have e := eq_of_beq (slice_closesL (x := txt l) (i := (p : Int)) (j := (q : Int)) (by omega) (by omega) (by simp [Str.length]; omega))
  rw [e]
  have h3 : ((q : Int) - (p : Int)).toNat = q - p := by omega
  rw [h3]
  simp [txt]
theorem turnAt_letters {cs : List Nat} {t : Nat} (hL : Letters cs) : Letters (turnAt cs t) := fun x hx => by
  rcases List.mem_append.mp hx with hx | hx
  · exact hL x (List.mem_of_mem_drop hx)
  · exact hL x (List.mem_of_mem_take hx)
theorem turnAt_len {cs : List Nat} {t : Nat} (h : t ≤ cs.length) : (turnAt cs t).length = cs.length := by
  simp [turnAt]
  omega
theorem back_snoc {l : List Nat} {i c : Nat} (h : l[i]? = some c) : backOf (l.take (i + 1)) = [mate c] ++ backOf (l.take i) := by
  simp [backOf, List.take_add_one, h]
theorem cut_cond {bk R : List Nat} {k i j : Nat} (hb : bk.length = k) (hR : R.length = 2 * k) (hi : i ≤ j) (hj : j ≤ k) :
    (Txt.slice (txt bk) (some ((k : Int) - (i : Int))) none ++ Txt.slice (txt bk) (some ((k : Int) - (j : Int))) (some ((k : Int) - (i : Int))) ++ Txt.slice (txt bk) none (some ((k : Int) - (j : Int))) == Txt.slice (txt R) (some (k : Int)) none) =
      decide (bk.drop (k - i) ++ (bk.drop (k - j)).take (j - i) ++ bk.take (k - j) = R.drop k) := by
  have e1 : (k : Int) - (i : Int) = ((k - i : Nat) : Int) := by omega
  have e2 : (k : Int) - (j : Int) = ((k - j : Nat) : Int) := by omega
  have e3 : k - i - (k - j) = j - i := by omega
  rw [e1, e2, slice_fro (by omega), slice_mid (by omega) (by omega), slice_to (by omega), slice_fro (by omega), txt_append, txt_append, e3]
  rw [Bool.eq_iff_iff, beq_iff_eq, decide_eq_true_iff]
  constructor
  · intro h
    simpa [txt] using h
  · intro h
    rw [h]
theorem cut_two {bk rest : List Nat} {k i j : Nat} (h : decide (bk.drop (k - i) ++ (bk.drop (k - j)).take (j - i) ++ bk.take (k - j) = rest) = true) (h2 : 0 < i ∧ i < j ∧ j < k) : cutAt bk rest k j i = 2 := by
  unfold cutAt
  rw [if_pos (of_decide_eq_true h), if_pos h2]
theorem cut_one {bk rest : List Nat} {k i j : Nat} (h : decide (bk.drop (k - i) ++ (bk.drop (k - j)).take (j - i) ++ bk.take (k - j) = rest) = true) (h2 : ¬ (0 < i ∧ i < j ∧ j < k)) : cutAt bk rest k j i = 1 := by
  unfold cutAt
  rw [if_pos (of_decide_eq_true h), if_neg h2]
theorem cut_no {bk rest : List Nat} {k i j : Nat} (h : decide (bk.drop (k - i) ++ (bk.drop (k - j)).take (j - i) ++ bk.take (k - j) = rest) = false) : cutAt bk rest k j i = 0 := by
  unfold cutAt
  rw [if_neg (of_decide_eq_false h)]
theorem sum_step {a i n : Nat} {f : Nat → Nat} (h : f i = n) : ((a + sumTo f i : Nat) : Int) + (n : Int) = ((a + sumTo f (i + 1) : Nat) : Int) := by
  show _ = ((a + (sumTo f i + f i) : Nat) : Int)
  rw [h]
  omega
theorem sum_same {a i : Nat} {f : Nat → Nat} (h : f i = 0) : ((a + sumTo f i : Nat) : Int) = ((a + sumTo f (i + 1) : Nat) : Int) := by
  show _ = ((a + (sumTo f i + f i) : Nat) : Int)
  rw [h]
  omega
noncomputable abbrev cuI1 (led : Led) (cs : List Nat) (k : Nat) (i : Nat) (m₁ : Str → Option Value) (led₁ : Led) : Prop := (∃ t, m₁ (Str.ofString "word") = some (.str (txt cs) t)) ∧ (∃ t, m₁ (Str.ofString "half") = some (.int (k : Nat) t)) ∧ (∃ t, m₁ (Str.ofString "found") = some (.int (sumTo (fun t => cutsT (backOf ((turnAt cs t).take k)) ((turnAt cs t).drop k) k) i : Nat) t)) ∧ ∀ p ∈ led, p ∈ led₁
theorem cuI1_out {P : Prop} {led : Led} {cs : List Nat} {k : Nat} {i : Nat} {m₁ : Str → Option Value} {led₁ : Led} (H : cuI1 led cs k i m₁ led₁) (kk : ∀ t, (m₁ (Str.ofString "word") = some (.str (txt cs) t)) → ∀ t, (m₁ (Str.ofString "half") = some (.int (k : Nat) t)) → ∀ t, (m₁ (Str.ofString "found") = some (.int (sumTo (fun t => cutsT (backOf ((turnAt cs t).take k)) ((turnAt cs t).drop k) k) i : Nat) t)) → (∀ p ∈ led, p ∈ led₁) →  P) : P := by
  obtain ⟨⟨z0, z1⟩, ⟨z2, z3⟩, ⟨z4, z5⟩, z6⟩ := H
  exact kk z0 z1 z2 z3 z4 z5 z6
noncomputable abbrev cuI2 (led₁ : Led) (cs : List Nat) (k : Nat) (R : List Nat) (i : Nat) (j : Nat) (m₂ : Str → Option Value) (led₂ : Led) : Prop := (∃ t, m₂ (Str.ofString "word") = some (.str (txt cs) t)) ∧ (∃ t, m₂ (Str.ofString "half") = some (.int (k : Nat) t)) ∧ (∃ t, m₂ (Str.ofString "found") = some (.int (sumTo (fun t => cutsT (backOf ((turnAt cs t).take k)) ((turnAt cs t).drop k) k) i : Nat) t)) ∧ (∃ t, m₂ (Str.ofString "ring") = some (.str (txt R) t)) ∧ (∃ t, m₂ (Str.ofString "back") = some (.str (txt (backOf ((R.take k).take j))) t)) ∧ ∀ p ∈ led₁, p ∈ led₂
theorem cuI2_out {P : Prop} {led₁ : Led} {cs : List Nat} {k : Nat} {R : List Nat} {i : Nat} {j : Nat} {m₂ : Str → Option Value} {led₂ : Led} (H : cuI2 led₁ cs k R i j m₂ led₂) (kk : ∀ t, (m₂ (Str.ofString "word") = some (.str (txt cs) t)) → ∀ t, (m₂ (Str.ofString "half") = some (.int (k : Nat) t)) → ∀ t, (m₂ (Str.ofString "found") = some (.int (sumTo (fun t => cutsT (backOf ((turnAt cs t).take k)) ((turnAt cs t).drop k) k) i : Nat) t)) → ∀ t, (m₂ (Str.ofString "ring") = some (.str (txt R) t)) → ∀ t, (m₂ (Str.ofString "back") = some (.str (txt (backOf ((R.take k).take j))) t)) → (∀ p ∈ led₁, p ∈ led₂) →  P) : P := by
  obtain ⟨⟨z0, z1⟩, ⟨z2, z3⟩, ⟨z4, z5⟩, ⟨z6, z7⟩, ⟨z8, z9⟩, z10⟩ := H
  exact kk z0 z1 z2 z3 z4 z5 z6 z7 z8 z9 z10
noncomputable abbrev cuI3 (led₁ : Led) (cs : List Nat) (k : Nat) (R : List Nat) (bk : List Nat) (i : Nat) (j : Nat) (m₂ : Str → Option Value) (led₂ : Led) : Prop := (∃ t, m₂ (Str.ofString "word") = some (.str (txt cs) t)) ∧ (∃ t, m₂ (Str.ofString "half") = some (.int (k : Nat) t)) ∧ (∃ t, m₂ (Str.ofString "found") = some (.int ((sumTo (fun t => cutsT (backOf ((turnAt cs t).take k)) ((turnAt cs t).drop k) k) i + sumTo (fun j => sumTo (cutAt bk (R.drop k) k j) (j + 1)) j : Nat)) t)) ∧ (∃ t, m₂ (Str.ofString "ring") = some (.str (txt R) t)) ∧ (∃ t, m₂ (Str.ofString "back") = some (.str (txt bk) t)) ∧ ∀ p ∈ led₁, p ∈ led₂
theorem cuI3_out {P : Prop} {led₁ : Led} {cs : List Nat} {k : Nat} {R : List Nat} {bk : List Nat} {i : Nat} {j : Nat} {m₂ : Str → Option Value} {led₂ : Led} (H : cuI3 led₁ cs k R bk i j m₂ led₂) (kk : ∀ t, (m₂ (Str.ofString "word") = some (.str (txt cs) t)) → ∀ t, (m₂ (Str.ofString "half") = some (.int (k : Nat) t)) → ∀ t, (m₂ (Str.ofString "found") = some (.int ((sumTo (fun t => cutsT (backOf ((turnAt cs t).take k)) ((turnAt cs t).drop k) k) i + sumTo (fun j => sumTo (cutAt bk (R.drop k) k j) (j + 1)) j : Nat)) t)) → ∀ t, (m₂ (Str.ofString "ring") = some (.str (txt R) t)) → ∀ t, (m₂ (Str.ofString "back") = some (.str (txt bk) t)) → (∀ p ∈ led₁, p ∈ led₂) →  P) : P := by
  obtain ⟨⟨z0, z1⟩, ⟨z2, z3⟩, ⟨z4, z5⟩, ⟨z6, z7⟩, ⟨z8, z9⟩, z10⟩ := H
  exact kk z0 z1 z2 z3 z4 z5 z6 z7 z8 z9 z10
noncomputable abbrev cuI4 (led₂ : Led) (cs : List Nat) (k : Nat) (R : List Nat) (bk : List Nat) (i : Nat) (j : Nat) (i' : Nat) (m₃ : Str → Option Value) (led₃ : Led) : Prop := (∃ t, m₃ (Str.ofString "word") = some (.str (txt cs) t)) ∧ (∃ t, m₃ (Str.ofString "half") = some (.int (k : Nat) t)) ∧ (∃ t, m₃ (Str.ofString "found") = some (.int ((sumTo (fun t => cutsT (backOf ((turnAt cs t).take k)) ((turnAt cs t).drop k) k) i + sumTo (fun j => sumTo (cutAt bk (R.drop k) k j) (j + 1)) j + sumTo (cutAt bk (R.drop k) k j) i' : Nat)) t)) ∧ (∃ t, m₃ (Str.ofString "ring") = some (.str (txt R) t)) ∧ (∃ t, m₃ (Str.ofString "back") = some (.str (txt bk) t)) ∧ (∃ t, m₃ (Str.ofString "j") = some (.int (j : Nat) t)) ∧ ∀ p ∈ led₂, p ∈ led₃
theorem cuI4_out {P : Prop} {led₂ : Led} {cs : List Nat} {k : Nat} {R : List Nat} {bk : List Nat} {i : Nat} {j : Nat} {i' : Nat} {m₃ : Str → Option Value} {led₃ : Led} (H : cuI4 led₂ cs k R bk i j i' m₃ led₃) (kk : ∀ t, (m₃ (Str.ofString "word") = some (.str (txt cs) t)) → ∀ t, (m₃ (Str.ofString "half") = some (.int (k : Nat) t)) → ∀ t, (m₃ (Str.ofString "found") = some (.int ((sumTo (fun t => cutsT (backOf ((turnAt cs t).take k)) ((turnAt cs t).drop k) k) i + sumTo (fun j => sumTo (cutAt bk (R.drop k) k j) (j + 1)) j + sumTo (cutAt bk (R.drop k) k j) i' : Nat)) t)) → ∀ t, (m₃ (Str.ofString "ring") = some (.str (txt R) t)) → ∀ t, (m₃ (Str.ofString "back") = some (.str (txt bk) t)) → ∀ t, (m₃ (Str.ofString "j") = some (.int (j : Nat) t)) → (∀ p ∈ led₂, p ∈ led₃) →  P) : P := by
  obtain ⟨⟨z0, z1⟩, ⟨z2, z3⟩, ⟨z4, z5⟩, ⟨z6, z7⟩, ⟨z8, z9⟩, ⟨z10, z11⟩, z12⟩ := H
  exact kk z0 z1 z2 z3 z4 z5 z6 z7 z8 z9 z10 z11 z12
theorem cuts_spec {w : World} {led : Led} {cs : List Nat} {t : Tok} {k : Nat} (hL : Letters cs) (hk2 : cs.length = 2 * k) (hk10 : k ≤ 10) :
    Spec w 229 10 60 [.str (txt cs) t] led (fun v led' => (∃ t, v = .int (cuts cs : Nat) t) ∧ ∀ p ∈ led, p ∈ led') := by
  intro mean mg mb dp un gd cn cs' a ccd cl outer A₀ base h₀ L m s Q E B F X N T hk hdp hu ret
  have hx : (txt cs).length = cs.length := by simp [Str.length]
  have hx2 : (txt cs).length ≤ 20 := by omega
  walk_at "my enter"
  walk_at "my upto"
  refine wpAny_For ?_ (fun _ => rfl)
  walk_at "my upto"
  rename Fr _ _ _ _ => F1
  rename News _ _ _ _ => N1
  rename IsRange _ _ _ _ _ _ _ _ => hr1
  have hfd : ((txt cs).length : Int).fdiv 2 = (k : Int) := by
    rw [hx, hk2, Int.fdiv_eq_ediv_of_nonneg _ (by decide)]
    omega
  rw [hfd] at F1 hr1
  have hkk : cs.length / 2 = k := by omega
  refine for_range (Ok := Still s) (cuI1 led cs k)
    rfl (by omega) rfl rfl rfl (fun _ _ _ => still_go _ _) ⟨_, _, rfl⟩ F1 N1 hr1 ⟨⟨_, rfl⟩, ⟨_, rfl⟩, ⟨_, rfl⟩, fun p hp => hp⟩ ?_ ?_ ?_
  · rintro i m₁ led₁ led₂ hk ⟨h1, h2, h3, h4⟩
    exact ⟨h1, h2, h3, fun p hp => hk p (h4 p hp) (.inl (led_le N1 p hp))⟩
  · intro i ti m₁ led₁ s₁ HS
    refine still_out HS fun h2 tk2 => ?_
    clear HS s₁
    intro hik HX
    refine cuI1_out HX fun tw hw1 th hw2 tf hw3 K1 => ?_
    clear HX
    intro F2 N2
    (try clear F1)
    (try clear N1)
    (try clear hr1)
    walk_at "my upto"
    refine wpAny_For ?_ (fun _ => rfl)
    walk_at "my upto"
    rename Fr _ _ _ _ => F3
    rename News _ _ _ _ => N3
    have e1 : Txt.slice (txt cs) (some (i : Int)) none ++ Txt.slice (txt cs) none (some (i : Int)) = txt (turnAt cs i) := by
      rw [slice_fro (by omega), slice_to (by omega), txt_append]
      rfl
    rw [e1] at F3 ⊢
    have hRl : (turnAt cs i).length = 2 * k := by rw [turnAt_len (by omega), hk2]
    have hRL : Letters (turnAt cs i) := turnAt_letters hL
    rw [slice_to (by omega)]
    obtain ⟨R, eR⟩ : ∃ R, R = turnAt cs i := ⟨_, rfl⟩
    rw [← eR] at F3 hRl hRL ⊢
    refine for_str (Ok := Still s) (cuI2 led₁ cs k R i)
      (fun x hx => hRL x (List.mem_of_mem_take hx)) rfl rfl rfl (fun _ _ _ => still_go _ _) ⟨_, _, rfl⟩ F3 N3 ⟨⟨_, hw1⟩, ⟨_, hw2⟩, ⟨_, hw3⟩, ⟨_, rfl⟩, ⟨_, rfl⟩, fun p hp => hp⟩ ?_ ?_ ?_
    · rintro j m₂ led₂ led₃ hk ⟨h1, h2, h3, h4, h5, h6⟩
      exact ⟨h1, h2, h3, h4, h5, fun p hp => hk p (h6 p hp) (.inl (led_le N3 p hp))⟩
    · intro j c u m₂ led₂ s₂ HS
      refine still_out HS fun h3 tk3 => ?_
      clear HS s₂
      intro hc HX
      refine cuI2_out HX fun tw hw1 th hw2 tf hw3 tr hw4 tb hw5 K2 => ?_
      clear HX
      intro F4 N4
      (try clear F3)
      (try clear N3)
      (try clear F2)
      (try clear N2)
      have hb5 : (txt (backOf ((R.take k).take j))).length ≤ 20 := by simp [Str.length, backOf]; omega
      have hm5 : (sg (mate c)).length ≤ 1 := Nat.le_refl 1
      have hc4 : c = 97 ∨ c = 65 ∨ c = 98 ∨ c = 66 := hRL c (List.mem_of_mem_take (List.mem_of_getElem? hc))
      walk_at "my upto"
      k_dflt (refine' (mate_spec (w := _) hc4).use ?B ?F ?X ?N ?T ?kK ?kd ?ku ?_)
      walk_at "use"
      intro v5 h5 tk5 n5 F5 N5 P5
      refine o_some (v := v5) P5 fun t5 K5 => ?_
      clear P5
      (try dsimp only)
      walk_at "my upto"
      rename Fr _ _ _ _ => F6
      rename News _ _ _ _ => N6
      rw [sg_txt, txt_append, ← back_snoc hc] at F6
      refine ⟨_, _, ⟨_, _, rfl⟩, F6, N6, fun p hp _ => K5 p hp, fun p hp => (nomatch hp), ⟨_, hw1⟩, ⟨_, hw2⟩, ⟨_, hw3⟩, ⟨_, hw4⟩, ⟨_, rfl⟩, fun p hp => K5 p (K2 p hp)⟩
    · intro m₂ led₂ s₂ HS
      refine still_out HS fun h3 tk3 => ?_
      clear HS s₂
      intro HX
      refine cuI2_out HX fun tw hw1 th hw2 tf hw3 tr hw4 tb hw5 K2 => ?_
      clear HX
      intro F4 N4
      (try clear F3)
      (try clear N3)
      (try clear F2)
      (try clear N2)
      rw [List.take_of_length_le (Nat.le_refl _)] at hw5
      have hBl : (backOf (R.take k)).length = k := by simp [backOf]; omega
      obtain ⟨bk, eb⟩ : ∃ bk, bk = backOf (R.take k) := ⟨_, rfl⟩
      rw [← eb] at hw5 hBl
      have hb5 : (txt bk).length ≤ 20 := by simp [Str.length]; omega
      have hb6 : (txt R).length ≤ 20 := by simp [Str.length]; omega
      (try dsimp only)
      walk_at "my upto"
      refine wpAny_For ?_ (fun _ => rfl)
      walk_at "my upto"
      rename Fr _ _ _ _ => F5
      rename News _ _ _ _ => N5
      rename IsRange _ _ _ _ _ _ _ _ => hr5
      refine for_range (Ok := Still s) (n := k + 1) (cuI3 led₁ cs k R bk i)
        rfl (by omega) rfl rfl rfl (fun _ _ _ => still_go _ _) ⟨_, _, rfl⟩ F5 N5 hr5 ⟨⟨_, hw1⟩, ⟨_, hw2⟩, ⟨_, hw3⟩, ⟨_, hw4⟩, ⟨_, hw5⟩, K2⟩ ?_ ?_ ?_
      · rintro j m₂ led₂ led₃ hk ⟨h1, h2, h3, h4, h5, h6⟩
        exact ⟨h1, h2, h3, h4, h5, fun p hp => hk p (h6 p hp) (.inl (led_le N5 p (K2 p hp)))⟩
      · intro j tj m₂ led₂ s₂ HS
        refine still_out HS fun h3 tk3 => ?_
        clear HS s₂
        intro hj HX
        refine cuI3_out HX fun tw hw1 th hw2 tf hw3 tr hw4 tb hw5 K2 => ?_
        clear HX
        intro F6 N6
        (try clear F5)
        (try clear N5)
        (try clear hr5)
        (try clear F4)
        (try clear N4)
        walk_at "my upto"
        refine wpAny_For ?_ (fun _ => rfl)
        walk_at "my upto"
        rename Fr _ _ _ _ => F7
        rename News _ _ _ _ => N7
        rename IsRange _ _ _ _ _ _ _ _ => hr7
        refine for_range (Ok := Still s) (n := j + 1) (cuI4 led₂ cs k R bk i j)
          rfl (by omega) rfl rfl rfl (fun _ _ _ => still_go _ _) ⟨_, _, rfl⟩ F7 N7 hr7 ⟨⟨_, hw1⟩, ⟨_, hw2⟩, ⟨_, hw3⟩, ⟨_, hw4⟩, ⟨_, hw5⟩, ⟨_, rfl⟩, fun p hp => hp⟩ ?_ ?_ ?_
        · rintro i' m₃ led₃ led₄ hk ⟨h1, h2, h3, h4, h5, h7, h6⟩
          exact ⟨h1, h2, h3, h4, h5, h7, fun p hp => hk p (h6 p hp) (.inl (led_le N7 p hp))⟩
        · intro i' tj m₃ led₃ s₂ HS
          refine still_out HS fun h3 tk3 => ?_
          clear HS s₂
          intro hi' HX
          refine cuI4_out HX fun tw hw1 th hw2 tf hw3 tr hw4 tb hw5 tj' hw6 K3 => ?_
          clear HX
          intro F8 N8
          (try clear F7)
          (try clear N7)
          (try clear hr7)
          (try clear F6)
          (try clear N6)
          walk_at "my upto"
          all_goals
            rename Fr _ _ _ _ => F9
            rename News _ _ _ _ => N9
          · rename (_ == _) = true => hc
            rw [cut_cond hBl hRl (by omega) (by omega)] at hc
            exact ⟨_, _, ⟨_, _, rfl⟩, F9, N9, fun p hp _ => hp, fun p hp => (nomatch hp), ⟨_, hw1⟩, ⟨_, hw2⟩, ex_int (sum_step (cut_two hc ⟨by omega, by omega, by omega⟩)) rfl, ⟨_, hw4⟩, ⟨_, hw5⟩, ⟨_, hw6⟩, K3⟩
          · rename (_ == _) = true => hc
            rw [cut_cond hBl hRl (by omega) (by omega)] at hc
            exact ⟨_, _, ⟨_, _, rfl⟩, F9, N9, fun p hp _ => hp, fun p hp => (nomatch hp), ⟨_, hw1⟩, ⟨_, hw2⟩, ex_int (sum_step (cut_one hc (by omega))) rfl, ⟨_, hw4⟩, ⟨_, hw5⟩, ⟨_, hw6⟩, K3⟩
          · rename (_ == _) = true => hc
            rw [cut_cond hBl hRl (by omega) (by omega)] at hc
            exact ⟨_, _, ⟨_, _, rfl⟩, F9, N9, fun p hp _ => hp, fun p hp => (nomatch hp), ⟨_, hw1⟩, ⟨_, hw2⟩, ex_int (sum_step (cut_one hc (by omega))) rfl, ⟨_, hw4⟩, ⟨_, hw5⟩, ⟨_, hw6⟩, K3⟩
          · rename (_ == _) = true => hc
            rw [cut_cond hBl hRl (by omega) (by omega)] at hc
            exact ⟨_, _, ⟨_, _, rfl⟩, F9, N9, fun p hp _ => hp, fun p hp => (nomatch hp), ⟨_, hw1⟩, ⟨_, hw2⟩, ex_int (sum_step (cut_one hc (by omega))) rfl, ⟨_, hw4⟩, ⟨_, hw5⟩, ⟨_, hw6⟩, K3⟩
          · rename (_ == _) = false => hc
            rw [cut_cond hBl hRl (by omega) (by omega)] at hc
            exact ⟨_, _, ⟨_, _, rfl⟩, F9, N9, fun p hp _ => hp, fun p hp => (nomatch hp), ⟨_, hw1⟩, ⟨_, hw2⟩, ex_int (sum_same (cut_no hc)) hw3, ⟨_, hw4⟩, ⟨_, hw5⟩, ⟨_, hw6⟩, K3⟩
        · intro m₃ led₃ s₂ HS
          refine still_out HS fun h3 tk3 => ?_
          clear HS s₂
          intro HX
          refine cuI4_out HX fun tw hw1 th hw2 tf hw3 tr hw4 tb hw5 tj' hw6 K3 => ?_
          clear HX
          intro F8 N8
          (try dsimp only)
          walk_at "my upto"
          exact ⟨_, _, ⟨_, _, rfl⟩, F8, N8, fun p hp _ => K3 p hp, fun p hp => (nomatch hp), ⟨_, hw1⟩, ⟨_, hw2⟩, ⟨_, hw3.trans (by rw [Nat.add_assoc]; rfl)⟩, ⟨_, hw4⟩, ⟨_, hw5⟩, fun p hp => K3 p (K2 p hp)⟩
      · intro m₂ led₂ s₂ HS
        refine still_out HS fun h3 tk3 => ?_
        clear HS s₂
        intro HX
        refine cuI3_out HX fun tw hw1 th hw2 tf hw3 tr hw4 tb hw5 K2 => ?_
        clear HX
        intro F8 N8
        (try dsimp only)
        walk_at "my upto"
        exact ⟨_, _, ⟨_, _, rfl⟩, F8, N8, fun p hp _ => K2 p hp, fun p hp => (nomatch hp), ⟨_, hw1⟩, ⟨_, hw2⟩, ⟨_, hw3.trans (by subst eb eR; rfl)⟩, fun p hp => K2 p (K1 p hp)⟩
  · intro m₁ led₁ s₁ HS
    refine still_out HS fun h2 tk2 => ?_
    clear HS s₁
    intro HX
    refine cuI1_out HX fun tw hw1 th hw2 tf hw3 K1 => ?_
    clear HX
    intro F2 N2
    (try clear F1)
    (try clear N1)
    (try clear hr1)
    (try dsimp only)
    walk_at "my upto"
    rename Fr h₀ L _ _ => kF
    rename News h₀ L _ _ => kN
    exact ret _ _ _ _ kF kN ⟨⟨tf, by unfold cuts; rw [hkk]⟩, K1⟩
end
local macro_rules | `(tactic| walk_at "loadName") => `(tactic| (k_here; k_dflt (refine' ldn ?k1 ?k2 ?_; (case k1 => k_asm); (case k2 => first | assumption | exact rfl); k_whole)))
theorem off_F2 : True := by
  w_top off
  trivial
section
set_option maxHeartbeats 1000000
local macro_rules | `(tactic| walk_at "cut on") => `(tactic| skip)
theorem _root_.PySem.Obj.IsDictOf.ep {prog : Program} {w : World} {K : Type} [DecidableEq K] {knd : KeyKind prog w K} {o : Obj} {kvs : List (K × Value)} (H : o.IsDictOf knd kvs) : ∃ ep, ∀ (h : Heap) (a : Addr), h.get? a = some o → h.DictAt knd a kvs ep := let ⟨es, ep, r⟩ := H; ⟨ep, fun _ _ e => ⟨o, es, e, r⟩⟩
noncomputable abbrev isValIt (d : Addr) (n ep : Nat) (i : Nat) (o : Obj) : Prop := o.cls = .type "dict_valueiterator" ∧ o.data = .fields #[.ref d, .int i 0, .int n 0, .int ep 0]
theorem srcVals {prog : Program} {w : World} {K : Type} [DecidableEq K] {knd : KeyKind prog w K} {A : Around} (hh : A.handled = none) {I d : Addr} (hne : d ≠ I) {od : Obj} {kvs : List (K × Value)} {ep : Nat} (H : ∀ (h : Heap) (a : Addr), h.get? a = some od → h.DictAt knd a kvs ep) :
    Src prog w A I [(d, od)] kvs.length (fun i v => ∃ k, kvs[i]? = some (k, v)) (isValIt d kvs.length ep) :=
  .ofWalks (Walks.dictValues (knd := knd) hh I d hne kvs ep) (fun i h st => let ⟨o, e, r⟩ := st.1; ⟨o, e, r⟩) fun i h o e hit hn => ⟨⟨o, e, hit⟩, H _ _ (hn _ (List.mem_singleton.mpr rfl))⟩
section
variable {prog : Program} {w : World} {A : Around} {E : Value → Shared → Prop} {s : Shared} {env : Env} {h₀ : Heap} {m : Str → Option Value} {led : Led}
theorem for_vals {K : Type} [DecidableEq K] {knd : KeyKind prog w K} {R : Result → Shared → Prop} {x : Str} {px : Pos} {body : List Stmt} {Ok : Shared → Prop} {v d : Addr} {od : Obj} {kvs : List (K × Value)} (J : Nat → (Str → Option Value) → Led → Prop)
    (hh : A.handled = none) (hx : env.kindOf x = some .local) (hp : (env.scope.kind == .class || (env.scope.kind == .module && env.locals != env.globals)) = false)
    (hgo : ∀ s₁ h tk, Ok s₁ → Ok { s₁ with heap := h, toks := tk }) (hs : Ok s) (F : Fr h₀ env.locals s.heap m) (N : News h₀ env.locals s.heap led) (hv : s.heap.IsValuesView v d) (hm : (d, od) ∈ led) (H : od.IsDictOf knd kvs) (hJ : J 0 m led)
    (stable : ∀ i m₁ led₁ led₂, (∀ p ∈ led₁, (p.1 < s.heap.objs.size ∨ p.2.cls ≠ .type "dict_valueiterator") → p ∈ led₂) → J i m₁ led₁ → J i m₁ led₂)
    (step : ∀ i k z m₁ led₁ s₁, Ok s₁ → kvs[i]? = some (k, z) → (d, od) ∈ led₁ → J i m₁ led₁ → Fr h₀ env.locals s₁.heap (fun y => if y = x then some z else m₁ y) → News h₀ env.locals s₁.heap led₁ →
      wpAny (model prog w) A (execs body env) (GStep Ok h₀ env.locals (.type "dict_valueiterator") [(d, od)] led₁ (J (i + 1))) No s₁)
    (done : ∀ m₁ led₁ s₁, Ok s₁ → J kvs.length m₁ led₁ → Fr h₀ env.locals s₁.heap m₁ → News h₀ env.locals s₁.heap led₁ → R (.ok .next) s₁) :
    wpAny (model prog w) A (pyIter (.ref v)) (fun it s₂ => codeAny (model prog w) A (.forLoop (.Name x px) it body [] env) R s₂) E s := by
  obtain ⟨ep, H⟩ := H.ep
  refine wpAny_pyIter_values hv (H _ _ (N _ hm).1) ?_
  exact for_go (ic := .type "dict_valueiterator") J (srcVals hh (Nat.ne_of_lt (led_le N _ hm)) H) (fun i o h => h.1) hx hp hgo hs F N ⟨rfl, rfl⟩ rfl (fun p hp => by rw [List.mem_singleton.mp hp]; exact hm) hJ stable
    (fun i v m₁ led₁ s₁ hs₁ hi hP hn hJ₁ F₁ N₁ => let ⟨k, e⟩ := hP; step i k v m₁ led₁ s₁ hs₁ e (hn _ (List.mem_singleton.mpr rfl)) hJ₁ F₁ N₁) done
end
/-- a dict of ints by ints, told of in the ledger -/
noncomputable def DictInt (w : World) (led : Led) (d : Addr) (ps : List (Int × Int)) : Prop := ∃ o kvs, (d, o) ∈ led ∧ o.IsDictOf (PySem.intKind PR w) kvs ∧ kvs.map (·.1) = ps.map (·.1) ∧ IntsAre (kvs.map (·.2)) (ps.map (·.2))
noncomputable abbrev cnI1 (led : Led) (ps : List (Int × Int)) (i : Nat) (m₁ : Str → Option Value) (led₁ : Led) : Prop := (∃ t, m₁ (Str.ofString "nc") = some (.int (((ps.map (·.2)).take i).sum) t)) ∧ ∀ p ∈ led, p ∈ led₁
theorem cnI1_out {P : Prop} {led : Led} {ps : List (Int × Int)} {i : Nat} {m₁ : Str → Option Value} {led₁ : Led} (H : cnI1 led ps i m₁ led₁) (kk : ∀ t, (m₁ (Str.ofString "nc") = some (.int (((ps.map (·.2)).take i).sum) t)) → (∀ p ∈ led, p ∈ led₁) →  P) : P := by
  obtain ⟨⟨z0, z1⟩, z2⟩ := H
  exact kk z0 z1 z2
theorem count_spec {w : World} {led : Led} {d : Addr} {ps : List (Int × Int)} (H : DictInt w led d ps) (lo : (d == sysModules) = false) :
    Spec w 161 10 60 [.ref d] led (fun v led' => (∃ t, v = .int ((ps.map (·.2)).sum) t) ∧ ∀ p ∈ led, p ∈ led') := by
  intro mean mg mb dp un gd cn cs' a ccd cl outer A₀ base h₀ L m s Q E B F X N T hk hdp hu ret
  obtain ⟨od, kvs, hm, hod, hk1, hk2⟩ := H
  walk_at "my enter"
  walk_at "my upto"
  refine wpAny_For ?_ (fun _ => rfl)
  walk_at "my upto"
  rename News _ _ _ _ => N1
  refine kdl_method (knd := PySem.intKind PR w) PySem.F.slot_dict_values PySem.F.type_dict_values N1 hm hod ?_
  (try dsimp only)
  walk_at "my upto"
  rename Fr _ _ _ _ => F1
  rename News _ _ _ _ => N1
  refine for_vals (knd := PySem.intKind PR w) (kvs := kvs) (Ok := Still s) (cnI1 led ps)
    rfl rfl rfl (fun _ _ _ => still_go _ _) ⟨_, _, rfl⟩ F1 N1 ⟨_, (N1 _ List.mem_cons_self).1, rfl, rfl⟩ (List.mem_cons_of_mem _ hm) hod ⟨⟨_, rfl⟩, fun p hp => List.mem_cons_of_mem _ hp⟩ ?_ ?_ ?_
  · rintro i m₁ led₁ led₂ hk ⟨h1, h2⟩
    exact ⟨h1, fun p hp => hk p (h2 p hp) (.inl (led_le N1 p (List.mem_cons_of_mem _ hp)))⟩
  · intro i k z m₁ led₁ s₁ HS
    refine still_out HS fun h2 tk2 => ?_
    clear HS s₁
    intro hi hm1 HX
    refine cnI1_out HX fun tn hn K1 => ?_
    clear HX
    intro F2 N2
    (try clear F1)
    (try clear N1)
    obtain ⟨y, ty, rfl, hy⟩ := ints_at2 hk2 (j := i) (v := z) (by simp [hi])
    walk_at "my upto"
    rename Fr _ _ _ _ => F3
    rename News _ _ _ _ => N3
    exact ⟨_, _, ⟨_, _, rfl⟩, F3, N3, fun p hp _ => hp, fun p hp => by rw [List.mem_singleton.mp hp]; exact hm1, ex_int (by rw [List.take_add_one, hy]; simp) rfl, K1⟩
  · intro m₁ led₁ s₁ HS
    refine still_out HS fun h2 tk2 => ?_
    clear HS s₁
    intro HX
    refine cnI1_out HX fun tn hn K1 => ?_
    clear HX
    intro F2 N2
    (try clear F1)
    (try clear N1)
    have hl : kvs.length = (ps.map (·.2)).length := by
      have := hk2.length
      simpa using this
    rw [hl, List.take_of_length_le (Nat.le_refl _)] at hn
    (try dsimp only)
    walk_at "my upto"
    rename Fr h₀ L _ _ => kF
    rename News h₀ L _ _ => kN
    exact ret _ _ _ _ kF kN ⟨⟨tn, rfl⟩, K1⟩
end
local macro_rules | `(tactic| walk_at "pad") => `(tactic| skip)
local macro_rules | `(tactic| walk_at "pad") => `(tactic| skip)
theorem off_F3 : True := by
  w_top off
  trivial
section
set_option maxHeartbeats 1000000
/-- a book of five: four ints and a dict of ints by ints -/
noncomputable def BookAt (w : World) (led : Led) (a : Addr) (x1 x2 x3 x4 : Int) (ps : List (Int × Int)) : Prop :=
  ∃ t1 t2 t3 t4 d n, (a, tupO [.int x1 t1, .int x2 t2, .int x3 t3, .int x4 t4, .ref d] n) ∈ led ∧ DictInt w led d ps ∧ (d == sysModules) = false
noncomputable def waysOf (cs : List Nat) : Nat := cs.length
theorem count_txt (cs : List Nat) (c : Nat) : Txt.count (txt cs) (sg c) = (cs.count c : Int) := by
  rw [show sg c = ⟨#[c]⟩ from rfl, count_cnt]
  show cnt c cs = _
  induction cs with
  | nil => rfl
  | cons x xs ih => 
    rw [cnt_cons, ih, List.count_cons]
    by_cases h : x = c
    · simp [h]; omega
    · simp [h]
noncomputable def factN : Nat → Nat
  | 0 => 1
  | n + 1 => factN n * (n + 1)
noncomputable def waysTo (cs : List Nat) : Nat → Nat
  | 0 => 1
  | 1 => factN (cs.count 97)
  | _ => factN (cs.count 97) * factN (cs.count 98)
theorem waysTo_step {cs : List Nat} {i c : Nat} (h : [97, 98][i]? = some c) : waysTo cs i * factN (cs.count c) = waysTo cs (i + 1) := by
  rcases i with _ | _ | i
  · simp at h
    subst h
    simp [waysTo]
  · simp at h
    subst h
    rfl
  · simp at h
noncomputable def dueTab (single double : Int) : List (Int × Int) := (if 0 < single then [(1, single)] else []) ++ (if 0 < double then [(2, double)] else [])
noncomputable def dueOf (cs : List Nat) : Int × Int × Int × Int × List (Int × Int) :=
  if cs = [] then (1, 0, 0, 0, [(0, 1)]) else
  let single : Int := (cuts cs : Int).fdiv 6
  let double : Int := (waysTo cs 2 : Int) - single
  let handles := single + 2 * double
  (waysTo cs 2, (waysTo cs 2 : Int) * ((cs.length : Int).fdiv 2 + 1) - 2 * handles, handles, single + 4 * double, dueTab single double)
theorem execs_two {M : Model} {A : Around} {st1 st2 : Stmt} {rest : List Stmt} {env : Env} {Q : Flow → Shared → Prop} {E : Value → Shared → Prop} {hp : Heap} {g : Array GenState} {d : Drawn} {k : Nat} {os : OsState}
    (h : ∀ tk R₁ R₂, (∀ s₁, wpAny M A (exec st2 env) R₂ E s₁ → R₁ .next s₁) → Cut M A rest env Q E R₂ → wpAny M A (exec st1 env) R₁ E ⟨hp, g, d, tk, os⟩) : wpAny M A (execs (st1 :: st2 :: rest) env) Q E ⟨hp, g, d, k, os⟩ :=
  wpAny_execs_cons (h k _ _ (fun _ h2 => wpAny_execs_cons h2) ⟨fun _ h => h, fun _ _ h => h, fun _ h => h, fun _ h => h⟩)
local macro_rules | `(tactic| walk_at "my stop8") => `(tactic| (walk_at "my stop"; (fail_if_success (with_reducible show wpAny _ _ (execs (Stmt.If _ _ _ _ :: Stmt.If _ _ _ _ :: _) _) _ _ _))))
local macro_rules | `(tactic| walk_at "my upto8") => `(tactic| repeat' (first | (k_unfold; (try dsimp only)) | (walk_at "my stop8"; walk1) | (walk_at "my stop8"; dsimp only; walk_at "my stop8"; walk1)))
noncomputable abbrev duI1 (led : Led) (cs : List Nat) (i : Nat) (m₁ : Str → Option Value) (led₁ : Led) : Prop := (∃ t, m₁ (Str.ofString "word") = some (.str (txt cs) t)) ∧ (∃ t, m₁ (Str.ofString "ways") = some (.int (waysTo cs i : Nat) t)) ∧ ∀ p ∈ led, p ∈ led₁
theorem duI1_out {P : Prop} {led : Led} {cs : List Nat} {i : Nat} {m₁ : Str → Option Value} {led₁ : Led} (H : duI1 led cs i m₁ led₁) (kk : ∀ t, (m₁ (Str.ofString "word") = some (.str (txt cs) t)) → ∀ t, (m₁ (Str.ofString "ways") = some (.int (waysTo cs i : Nat) t)) → (∀ p ∈ led, p ∈ led₁) →  P) : P := by
  obtain ⟨⟨z0, z1⟩, ⟨z2, z3⟩, z4⟩ := H
  exact kk z0 z1 z2 z3 z4
noncomputable abbrev duI2 (led₁ : Led) (cs : List Nat) (i : Nat) (j : Nat) (m₂ : Str → Option Value) (led₂ : Led) : Prop := (∃ t, m₂ (Str.ofString "word") = some (.str (txt cs) t)) ∧ (∃ t, m₂ (Str.ofString "ways") = some (.int ((waysTo cs i * factN j : Nat)) t)) ∧ ∀ p ∈ led₁, p ∈ led₂
theorem duI2_out {P : Prop} {led₁ : Led} {cs : List Nat} {i : Nat} {j : Nat} {m₂ : Str → Option Value} {led₂ : Led} (H : duI2 led₁ cs i j m₂ led₂) (kk : ∀ t, (m₂ (Str.ofString "word") = some (.str (txt cs) t)) → ∀ t, (m₂ (Str.ofString "ways") = some (.int ((waysTo cs i * factN j : Nat)) t)) → (∀ p ∈ led₁, p ∈ led₂) →  P) : P := by
  obtain ⟨⟨z0, z1⟩, ⟨z2, z3⟩, z4⟩ := H
  exact kk z0 z1 z2 z3 z4
theorem due_spec {w : World} {led : Led} {cs : List Nat} {t : Tok} {k : Nat} (hL : Letters cs) (hk2 : cs.length = 2 * k) (hk10 : k ≤ 10) :
    Spec w 236 20 100 [.str (txt cs) t] led (fun v led' => ∃ a, v = .ref a ∧ (BookAt w led' a (dueOf cs).1 (dueOf cs).2.1 (dueOf cs).2.2.1 (dueOf cs).2.2.2.1 (dueOf cs).2.2.2.2) ∧ ∀ p ∈ led, p ∈ led') := by
  intro mean mg mb dp un gd cn cs' a ccd cl outer A₀ base h₀ L m s Q E B F X N T hk hdp hu ret
  have hx : (txt cs).length = cs.length := by simp [Str.length]
  have hx2 : (txt cs).length ≤ 20 := by omega
  walk_at "my enter"
  rename_i g9 L9 h9 FG9 F9 N9 B9 X9 T9
  walk_at "my upto"
  · rename Fr h₀ L _ _ => kF
    rename News h₀ L _ _ => kN
    rename Obj.IsDictOf _ _ _ => hD
    rename (_ == sysModules) = false => lo9
    refine ret _ _ _ _ kF kN ⟨_, rfl, ?_, fun p hp => List.mem_cons_of_mem _ (List.mem_cons_of_mem _ hp)⟩
    rename (txt cs == Str.ofString "") = true => hz
    have hz' : cs = [] := by
      have h2 : (txt cs).cps = #[] := (congrArg Str.cps (eq_of_beq hz)).trans (by rfl)
      simpa [txt] using h2
    subst hz'
    exact ⟨_, _, _, _, _, _, List.mem_cons_self, ⟨_, _, List.mem_cons_of_mem _ List.mem_cons_self, hD, rfl, .cons _ _ .nil⟩, lo9⟩
  refine wpAny_For ?_ (fun _ => rfl)
  walk_at "my upto"
  rename Fr _ _ _ _ => F1
  rename News _ _ _ _ => N1
  rw [show Str.ofString "ab" = txt [97, 98] by decide +kernel]
  refine for_str (Ok := Still s) (duI1 led cs)
    (by intro x hx; simp at hx; omega) rfl rfl rfl (fun _ _ _ => still_go _ _) ⟨_, _, rfl⟩ F1 N1 ⟨⟨_, rfl⟩, ⟨_, rfl⟩, fun p hp => hp⟩ ?_ ?_ ?_
  · rintro i m₁ led₁ led₂ hk ⟨h1, h2, h4⟩
    exact ⟨h1, h2, fun p hp => hk p (h4 p hp) (.inl (led_le N1 p hp))⟩
  · intro i c u m₁ led₁ s₁ HS
    refine still_out HS fun h2 tk2 => ?_
    clear HS s₁
    intro hc HX
    refine duI1_out HX fun tw hw1 tn hw2 K1 => ?_
    clear HX
    intro F2 N2
    (try clear F1)
    (try clear N1)
    have hc1 : (sg c).length ≤ 1 := Nat.le_refl 1
    walk_at "my upto"
    refine wpAny_For ?_ (fun _ => rfl)
    walk_at "my upto"
    rename Fr _ _ _ _ => F3
    rename News _ _ _ _ => N3
    rename IsRange _ _ _ _ _ _ _ _ => hr3
    have hcc : cs.count c ≤ cs.length := List.count_le_length
    refine for_range (Ok := Still s) (n := cs.count c) (duI2 led₁ cs i)
      (count_txt cs c) (by omega) rfl rfl rfl (fun _ _ _ => still_go _ _) ⟨_, _, rfl⟩ F3 N3 hr3 ⟨⟨_, hw1⟩, ⟨tn, hw2.trans (by simp [factN])⟩, fun p hp => hp⟩ ?_ ?_ ?_
    · rintro j m₂ led₂ led₃ hk ⟨h1, h2, h4⟩
      exact ⟨h1, h2, fun p hp => hk p (h4 p hp) (.inl (led_le N3 p hp))⟩
    · intro j tj m₂ led₂ s₂ HS
      refine still_out HS fun h3 tk3 => ?_
      clear HS s₂
      intro hj HX
      refine duI2_out HX fun tw hw1 tn hw2 K2 => ?_
      clear HX
      intro F4 N4
      (try clear F3)
      (try clear N3)
      walk_at "my upto"
      rename Fr _ _ _ _ => F5
      rename News _ _ _ _ => N5
      exact ⟨_, _, ⟨_, _, rfl⟩, F5, N5, fun p hp _ => hp, fun p hp => (nomatch hp), ⟨_, hw1⟩, ex_int (by show _ = ((waysTo cs i * (factN j * (j + 1)) : Nat) : Int); rw [← Nat.mul_assoc]; push_cast; rfl) rfl, K2⟩
    · intro m₂ led₂ s₂ HS
      refine still_out HS fun h3 tk3 => ?_
      clear HS s₂
      intro HX
      refine duI2_out HX fun tw hw1 tn hw2 K2 => ?_
      clear HX
      intro F4 N4
      (try clear F3)
      (try clear N3)
      (try dsimp only)
      walk_at "my upto"
      exact ⟨_, _, ⟨_, _, rfl⟩, F4, N4, fun p hp _ => K2 p hp, fun p hp => (nomatch hp), ⟨_, hw1⟩, ⟨_, hw2.trans (by rw [waysTo_step hc])⟩, fun p hp => K2 p (K1 p hp)⟩
  · intro m₁ led₁ s₁ HS
    refine still_out HS fun h2 tk2 => ?_
    clear HS s₁
    intro HX
    refine duI1_out HX fun tw hw1 tn hw2 K1 => ?_
    clear HX
    intro F2 N2
    (try clear F1)
    (try clear N1)
    (try dsimp only)
    walk_at "my upto"
    k_dflt (refine' (cuts_spec (w := _) hL hk2 hk10).use ?B ?F ?X ?N ?T ?kK ?kd ?ku ?_)
    walk_at "use"
    intro v5 h5 tk5 n5 F5 N5 P5
    refine o_some (v := v5) P5 fun t5 K5 => ?_
    clear P5
    (try dsimp only)
    walk_at "my upto8"
    (try dsimp only)
    refine execs_two fun tk9 R₁ R₂ hstep C2 => ?_
    rename (txt cs == Str.ofString "") = false => hz
    have hz' : cs ≠ [] := by
      rintro rfl
      revert hz
      decide +kernel
    have tail : ∀ (h : Heap) (tk : Nat) (led' : Led) (m' : Str → Option Value) (d : Addr) (tw tn ts td : Tok), Fr g9 L9 h m' → News g9 L9 h led' → m' (Str.ofString "word") = some (.str (txt cs) tw) → m' (Str.ofString "ways") = some (.int (waysTo cs 2 : Nat) tn) → m' (Str.ofString "single") = some (.int ((cuts cs : Int).fdiv 6) ts) → m' (Str.ofString "double") = some (.int ((waysTo cs 2 : Int) - (cuts cs : Int).fdiv 6) td) → m' (Str.ofString "table") = some (.ref d) →
        DictInt w led' d (dueTab ((cuts cs : Int).fdiv 6) ((waysTo cs 2 : Int) - (cuts cs : Int).fdiv 6)) → (d == sysModules) = false → (∀ p ∈ led, p ∈ led') → R₂ .next { s with heap := h, toks := tk } := by
      intro h tk led' m' d tw tn ts td Ft Nt e1 e2 e3 e4 e5 hD hlo hK
      refine cut_next C2 ?_
      clear hstep C2 hw1 hw2
      walk_at "my upto"
      rename Fr h₀ L _ _ => kF
      rename News h₀ L _ _ => kN
      refine ret _ _ _ _ kF kN ⟨_, rfl, ?_, fun p hp => List.mem_cons_of_mem _ (hK p hp)⟩
      rw [dueOf, if_neg hz']
      obtain ⟨o, kvs, q1, q2, q3, q4⟩ := hD
      exact ⟨_, _, _, _, _, _, List.mem_cons_self, ⟨o, kvs, List.mem_cons_of_mem _ q1, q2, q3, q4⟩, hlo⟩
    clear C2
    walk_at "my upto"
    all_goals
      refine hstep _ ?_
      (try dsimp only)
      walk_at "my upto"
    all_goals
      rename Fr _ _ _ _ => kF
      rename News _ _ _ _ => kN
      rename Obj.IsDictOf _ _ _ => hD
      first
        | exact tail _ _ _ _ _ _ _ _ _ kF kN hw1 hw2 rfl rfl rfl ⟨_, _, List.mem_cons_self, hD, (by rw [dueTab, if_pos (by assumption), if_pos (by assumption)]; rfl), (by rw [dueTab, if_pos (by assumption), if_pos (by assumption)]; exact .cons _ _ (.cons _ _ .nil))⟩ (by assumption) (fun p hp => List.mem_cons_of_mem _ (K5 p (K1 p hp)))
        | exact tail _ _ _ _ _ _ _ _ _ kF kN hw1 hw2 rfl rfl rfl ⟨_, _, List.mem_cons_self, hD, (by rw [dueTab, if_pos (by assumption), if_neg (by assumption)]; rfl), (by rw [dueTab, if_pos (by assumption), if_neg (by assumption)]; exact .cons _ _ .nil)⟩ (by assumption) (fun p hp => List.mem_cons_of_mem _ (K5 p (K1 p hp)))
        | exact tail _ _ _ _ _ _ _ _ _ kF kN hw1 hw2 rfl rfl rfl ⟨_, _, List.mem_cons_self, hD, (by rw [dueTab, if_neg (by assumption), if_pos (by assumption)]; rfl), (by rw [dueTab, if_neg (by assumption), if_pos (by assumption)]; exact .cons _ _ .nil)⟩ (by assumption) (fun p hp => List.mem_cons_of_mem _ (K5 p (K1 p hp)))
        | exact tail _ _ _ _ _ _ _ _ _ kF kN hw1 hw2 rfl rfl rfl ⟨_, _, List.mem_cons_self, hD, (by rw [dueTab, if_neg (by assumption), if_neg (by assumption)]; rfl), (by rw [dueTab, if_neg (by assumption), if_neg (by assumption)]; exact .nil)⟩ (by assumption) (fun p hp => List.mem_cons_of_mem _ (K5 p (K1 p hp)))
end
section
set_option maxHeartbeats 1000000
theorem entry_itemiter_iter : entryFor table "dict_itemiterator.__iter__" = some Builtin.«dict_keyiterator.__iter__» :=
  entryFor_alias (id' := "dict_keyiterator.__iter__") (by kernel_rfl) rfl (by decide +kernel) (by kernel_rfl)
section
variable {prog : Program} {w : World} {K : Type} [DecidableEq K] {knd : KeyKind prog w K} {A : Around} {E : Value → Shared → Prop} {s : Shared}
theorem pyIter_itemiter {it d : Addr} {i n ep : Nat} {ok ov : Value} {Q : Value → Shared → Prop} (hit : IsItemIter s.heap it d i n ep ok ov) (h : Q (.ref it) s) : wpAny (model prog w) A (pyIter (.ref it)) Q E s := by
  have hT : s.TypeIs (.ref it) "dict_itemiterator" := ⟨_, hit, rfl⟩
  refine wpAny_pyIter_slot hT F.slot_dict_itemiterator_iter (wpAny_call_entry F.slot_dict_itemiterator_iter hT entry_itemiter_iter ?_ (F.args_dict_itemiterator_iter_1 _))
  show wpAny _ _ (ret (.ref it)) _ _ s
  exact wpAny_pure ⟨_, rfl, "dict_itemiterator", _, hT, F.slot_dict_itemiterator_next.lookup, h⟩
noncomputable abbrev ItSt (knd : KeyKind prog w K) (I d : Addr) (kvs : List (K × Value)) (ep : Nat) (i : Nat) (h : Heap) : Prop := (∃ ok ov, IsItemIter h I d i kvs.length ep ok ov) ∧ h.DictAt knd d kvs ep
noncomputable abbrev ItPt (knd : KeyKind prog w K) (kvs : List (K × Value)) (i : Nat) (vals : Array Value) : Prop := ∃ k key v, kvs[i]? = some (k, v) ∧ knd.is k key = true ∧ vals = #[key, v]
theorem itemsWalks (hh : A.handled = none) {I d : Addr} (hne : d ≠ I) (kvs : List (K × Value)) (ep : Nat) :
    WalksU prog w A I [I, d] [I] kvs.length (ItPt knd kvs) (ItSt knd I d kvs ep)
      (fun i T h => (∃ ok ov, IsItemIterOut h I d (i + 1) kvs.length ep ok ov T) ∧ h.DictAt knd d kvs ep ∧ T ≠ I) where
  sub := fun b hb => by
    rw [List.mem_singleton.mp hb]
    exact List.mem_cons_self
  frame := fun i h h' st hk => by
    obtain ⟨⟨ok, ov, e⟩, hd9⟩ := st
    exact ⟨⟨ok, ov, hk _ List.mem_cons_self _ e⟩, hd9.at fun o e => hk _ (List.mem_cons_of_mem _ List.mem_cons_self) _ e⟩
  item := fun i s Q E hi st hQ => by
    obtain ⟨⟨ok, ov, e⟩, hd9⟩ := st
    obtain ⟨⟨k, v⟩, hx⟩ : ∃ p, kvs[i]? = some p := ⟨_, List.getElem?_eq_getElem hi⟩
    have hlt : I < s.heap.objs.size := Heap.lt_size e
    refine wpAny_pyNext_items_item e hd9 hx fun key h' hkey ho ht hz hk => ?_
    exact hQ _ _ h' s.toks ⟨k, key, v, hx, hkey, rfl⟩ ⟨_, ht, rfl, _, rfl⟩ ⟨⟨_, _, ho⟩, hd9.at fun o e => hk d o hne e, Nat.ne_of_gt hlt⟩ fun b o hb e => hk b o (fun z => hb (List.mem_singleton.mpr z)) e
  go := fun elts k pos i T s Q E hmid hQ => by
    obtain ⟨⟨ok, ov, e⟩, hd9, hT⟩ := hmid
    refine wpAny_letOwnedTupleGo_items e fun h' he hs => ?_
    exact hQ h' ⟨⟨ok, ov, he⟩, hd9.extBut hs.extBut hne⟩ fun b o hb e => hs.extBut b o (fun z => hb (List.mem_singleton.mpr z)) e
  apart := fun i T h hmid hm => hmid.2.2 (List.mem_singleton.mp hm)
  done := fun s Q E st hQ => by
    obtain ⟨⟨ok, ov, e⟩, hd9⟩ := st
    exact wpAny_pyNext_items_end hh e hd9 (by simp) fun h' hx => hQ h' s.toks fun b o hb e => hx b o (fun z => hb (List.mem_singleton.mpr z)) e
  self := fun i s Q E st h => by
    obtain ⟨⟨ok, ov, e⟩, hd9⟩ := st
    exact pyIter_itemiter e h
end
end
theorem off_G0 : True := by
  w_top off
  trivial
section
set_option maxHeartbeats 1000000
local macro_rules | `(tactic| walk_at "cut on") => `(tactic| skip)
noncomputable def IStep (Ok : Shared → Prop) (h₀ : Heap) (L : Addr) (d : Addr) (od : Obj) (led₁ : Led) (J : (Str → Option Value) → Led → Prop) (f : Flow) (s₂ : Shared) : Prop := match f with
  | .ret _ => False
  | .brk => False
  | _ => ∃ m₂ led₂, Ok s₂ ∧ Fr h₀ L s₂.heap m₂ ∧ News h₀ L s₂.heap led₂ ∧ (∀ p ∈ led₁, p.2.cls = .type "dict_itemiterator" → p ∈ led₂) ∧ (d, od) ∈ led₂ ∧ J m₂ led₂
section
variable {prog : Program} {w : World} {A : Around} {E : Value → Shared → Prop} {s : Shared} {env : Env} {h₀ : Heap} {m : Str → Option Value} {led : Led}
theorem for_items {K : Type} [DecidableEq K] {knd : KeyKind prog w K} {R : Result → Shared → Prop} {xa xb : Str} {pa pb pt : Pos} {kt : Nat} {body : List Stmt} {Ok : Shared → Prop} {v d : Addr} {od : Obj} {kvs : List (K × Value)} (J : Nat → (Str → Option Value) → Led → Prop)
    (hh : A.handled = none) (hxa : env.kindOf xa = some .local) (hxb : env.kindOf xb = some .local) (hp : (env.scope.kind == .class || (env.scope.kind == .module && env.locals != env.globals)) = false)
    (hgo : ∀ s₁ h tk, Ok s₁ → Ok { s₁ with heap := h, toks := tk }) (hs : Ok s) (F : Fr h₀ env.locals s.heap m) (N : News h₀ env.locals s.heap led) (hv : s.heap.IsItemsView v d) (hm : (d, od) ∈ led) (H : od.IsDictOf knd kvs) (hJ : J 0 m led)
    (stable : ∀ i m₁ led₁ led₂, (∀ p ∈ led₁, (p.1 < s.heap.objs.size ∨ p.2.cls ≠ .type "dict_itemiterator") → p ∈ led₂) → J i m₁ led₁ → J i m₁ led₂)
    (step : ∀ i k key z m₁ led₁ s₁, Ok s₁ → kvs[i]? = some (k, z) → knd.is k key = true → (d, od) ∈ led₁ → J i m₁ led₁ → Fr h₀ env.locals s₁.heap (fun y => if y = xb then some z else if y = xa then some key else m₁ y) → News h₀ env.locals s₁.heap led₁ →
      wpAny (model prog w) A (execs body env) (IStep Ok h₀ env.locals d od led₁ (J (i + 1))) No s₁)
    (done : ∀ m₁ led₁ s₁, Ok s₁ → J kvs.length m₁ led₁ → Fr h₀ env.locals s₁.heap m₁ → News h₀ env.locals s₁.heap led₁ → R (.ok .next) s₁) :
    wpAny (model prog w) A (pyIter (.ref v)) (fun it s₂ => codeAny (model prog w) A (.forLoop (.Tuple [.Name xa pa, .Name xb pb] kt pt) it body [] env) R s₂) E s := by
  obtain ⟨ep, H⟩ := H.ep
  have hd0 := (N _ hm).1
  have hdI : d ≠ s.heap.objs.size := Nat.ne_of_lt (Heap.lt_size hd0)
  refine wpAny_pyIter_items hv (H _ _ hd0) ?_
  have W := itemsWalks (prog := prog) (w := w) (knd := knd) (A := A) hh hdI kvs ep
  have hfree : ∀ (n ep : Nat), (({ cls := .type "dict_itemiterator", data := .fields #[.none, .bool false, .ref d, .int 0 0, .int n 0, .int ep 0, .none, .none] } : Obj)).isFreed = false := fun _ _ => rfl
  have hI0 := Heap.get?_push_size s.heap (hfree kvs.length ep)
  have hst0 : ItSt knd s.heap.objs.size d kvs ep 0 (s.heap.push { cls := .type "dict_itemiterator", data := .fields #[.none, .bool false, .ref d, .int 0 0, .int kvs.length 0, .int ep 0, .none, .none] }) :=
    ⟨⟨_, _, hI0⟩, H _ _ (Heap.get?_push_of_some _ hd0)⟩
  have Fp := F.push { cls := .type "dict_itemiterator", data := .fields #[.none, .bool false, .ref d, .int 0 0, .int kvs.length 0, .int ep 0, .none, .none] }
  have Np : News h₀ env.locals (s.heap.push { cls := .type "dict_itemiterator", data := .fields #[.none, .bool false, .ref d, .int 0 0, .int kvs.length 0, .int ep 0, .none, .none] }) ((s.heap.objs.size, { cls := .type "dict_itemiterator", data := .fields #[.none, .bool false, .ref d, .int 0 0, .int kvs.length 0, .int ep 0, .none, .none] }) :: led) := fun p hp => by
    rcases List.mem_cons.mp hp with rfl | hp
    · exact fresh_led F (Nat.le_refl _) hI0
    · exact ⟨Heap.get?_push_of_some _ (N p hp).1, (N p hp).2⟩
  refine forLoop_two (s := { s with heap := s.heap.push _ }) (Ok := Ok) (St := ItSt knd s.heap.objs.size d kvs ep) (fun i m₁ led₁ => (d, od) ∈ led₁ ∧ J i m₁ led₁) hh W
    (fun i vals hv => by obtain ⟨_, _, _, _, _, rfl⟩ := hv; exact ⟨_, _, rfl⟩) hxa hxb hp hgo (hgo s _ s.toks hs) Fp Np hst0 ?_ ?_ ⟨List.mem_cons_of_mem _ hm, stable 0 m led _ (fun p hp _ => List.mem_cons_of_mem _ hp) hJ⟩ ?_ ?_ ?_
  · intro b hb
    rcases List.mem_cons.mp hb with rfl | hb
    · exact ⟨_, List.mem_cons_self⟩
    · rcases List.mem_cons.mp hb with rfl | hb
      · exact ⟨od, List.mem_cons_of_mem _ hm⟩
      · cases hb
  · rintro i h ⟨⟨_, _, e1⟩, _⟩ b hb
    rw [List.mem_singleton.mp hb]
    exact ⟨_, e1⟩
  · rintro i m₁ led₁ led₂ h N₁ ⟨⟨_, _, e1⟩, _⟩ hk ⟨hd1, hJ₁⟩
    have key : ∀ p ∈ led₁, (p.1 < s.heap.objs.size ∨ p.2.cls ≠ .type "dict_itemiterator") → p ∈ led₂ := fun p hp hn => hk p hp fun hm => by
      have z := List.mem_singleton.mp hm
      have e0 := (N₁ p hp).1
      rcases hn with hn | hn
      · rw [z] at hn
        exact Nat.lt_irrefl _ hn
      · rw [z, show h.get? s.heap.objs.size = _ from e1] at e0
        exact hn (congrArg Obj.cls (Option.some.inj e0)).symm
    exact ⟨key _ hd1 (.inl (Heap.lt_size hd0)), stable i m₁ led₁ led₂ key hJ₁⟩
  · rintro i va vb m₁ led₁ s₁ hs₁ hi ⟨k, key, z, hx, hkey, e⟩ ⟨hd1, hJ₁⟩ F₁ N₁ ⟨⟨_, _, e1⟩, _⟩
    have ea := congrArg (fun a : Array Value => a[0]?) e
    have eb := congrArg (fun a : Array Value => a[1]?) e
    simp at ea eb
    subst ea eb
    refine wpAny_mono (step i k va vb m₁ led₁ s₁ hs₁ hx hkey hd1 hJ₁ F₁ N₁) (fun f s₂ h₂ => ?_) fun _ _ e => e
    have back : (∃ m₂ led₂, Ok s₂ ∧ Fr h₀ env.locals s₂.heap m₂ ∧ News h₀ env.locals s₂.heap led₂ ∧ (∀ p ∈ led₁, p.2.cls = .type "dict_itemiterator" → p ∈ led₂) ∧ (d, od) ∈ led₂ ∧ J (i + 1) m₂ led₂) →
        ∃ m₂ led₂, Ok s₂ ∧ Fr h₀ env.locals s₂.heap m₂ ∧ News h₀ env.locals s₂.heap led₂ ∧ (∀ p ∈ led₁, p.1 ∈ [s.heap.objs.size, d] → p ∈ led₂) ∧ ((d, od) ∈ led₂ ∧ J (i + 1) m₂ led₂) := by
      rintro ⟨m₂, led₂, a1, a2, a3, a4, a5, a6⟩
      refine ⟨m₂, led₂, a1, a2, a3, fun p hp hm => ?_, a5, a6⟩
      have e0 := (N₁ p hp).1
      rcases List.mem_cons.mp hm with z | hm
      · rw [z, show s₁.heap.get? s.heap.objs.size = _ from e1] at e0
        exact a4 p hp (congrArg Obj.cls (Option.some.inj e0)).symm
      · have z := List.mem_singleton.mp hm
        have e2 := (N₁ _ hd1).1
        rw [z, show s₁.heap.get? d = some od from e2] at e0
        rcases p with ⟨p1, p2⟩
        simp at z e0
        subst z e0
        exact a5
    cases f with
    | ret v => exact h₂.elim
    | brk => exact h₂.elim
    | next => exact back h₂
    | cont => exact back h₂
  · rintro m₁ led₁ s₁ hs₁ ⟨_, hJ₁⟩ F₁ N₁
    exact wpAny_execs_nil (done m₁ led₁ s₁ hs₁ hJ₁ F₁ N₁)
end
section
variable {prog : Program} {w : World} {K : Type} [DecidableEq K] {knd : KeyKind prog w K} {A : Around} {E : Value → Shared → Prop} {s : Shared} {h₀ : Heap} {L d : Addr} {m : Str → Option Value} {led : Led} {o : Obj} {kvs : List (K × Value)} {k : K} {key v : Value}
theorem dict_set {Q : Unit → Shared → Prop} (F : Fr h₀ L s.heap m) (N : News h₀ L s.heap led) (hm : (d, o) ∈ led) (hd : o.IsDictOf knd kvs) (hkey : knd.is k key = true) (hsz : kvs.length ≤ 1000)
    (h : ∀ h' o', Fr h₀ L h' m → News h₀ L h' (upd d o' led) → o'.IsDictOf knd (stored kvs k v) → Q () { s with heap := h', toks := s.toks + 1 }) : wpAny (model prog w) A (setItem (.ref d) key v) Q E s := by
  refine wpAny_setItem_pairs (hsz := by rw [sizeLine_eq]; omega) hkey (Heap.dictOf_iff.mpr ⟨o, (N _ hm).1, hd⟩) fun h' hmm hs => ?_
  obtain ⟨o', ho', hd'⟩ := Heap.dictOf_iff.mp hmm
  have hk : ∀ b y, b ≠ d → s.heap.get? b = some y → h'.get? b = some y := fun b y hb e => (hs.2 b hb).trans e
  exact h h' o' (fr_change F N hm hk) (news_change N hm hk ho') hd'
end
noncomputable abbrev Tab := List (Int × Int)
noncomputable def putT (ps : Tab) (k x : Int) : Tab := if ps.any (fun p => p.1 = k) then ps.map (fun p => if p.1 = k then (p.1, x) else p) else ps ++ [(k, x)]
noncomputable def getT (ps : Tab) (k : Int) : Option Int := (ps.find? (fun p => p.1 = k)).map (·.2)
noncomputable def addT (ps : Tab) (k x : Int) : Tab := putT ps k ((getT ps k).getD 0 + x)
noncomputable def copyT (ps : Tab) : Tab := ps.foldl (fun acc p => putT acc p.1 p.2) []
noncomputable def mergeT (tp sp : Tab) : Tab := sp.foldl (fun acc p => addT acc p.1 p.2) (copyT tp)
noncomputable def PairsR (kvs : List (Int × Value)) (ps : Tab) : Prop := kvs.map (·.1) = ps.map (·.1) ∧ IntsAre (kvs.map (·.2)) (ps.map (·.2))
theorem PairsR.nil : PairsR [] [] := ⟨rfl, .nil⟩
theorem PairsR.cases {kv : Int × Value} {kvs : List (Int × Value)} {ps : Tab} (h : PairsR (kv :: kvs) ps) : ∃ x t ps', kv.2 = .int x t ∧ ps = (kv.1, x) :: ps' ∧ PairsR kvs ps' := by
  obtain ⟨h1, h2⟩ := h
  cases ps with
  | nil => simp at h1
  | cons p ps =>
    simp only [List.map_cons, List.cons.injEq] at h1 h2
    obtain ⟨a, b⟩ := p
    generalize hv : kv.2 = v at h2
    cases h2 with
    | cons x t r => exact ⟨b, t, ps, rfl, by rw [h1.1], h1.2, r⟩
theorem PairsR.cons {k x : Int} {t : Tok} {kvs : List (Int × Value)} {ps : Tab} (h : PairsR kvs ps) : PairsR ((k, .int x t) :: kvs) ((k, x) :: ps) := ⟨by simp [h.1], .cons x t h.2⟩
theorem PairsR.append {kvs kvs' : List (Int × Value)} {ps ps' : Tab} (h : PairsR kvs ps) (h' : PairsR kvs' ps') : PairsR (kvs ++ kvs') (ps ++ ps') := by
  induction kvs generalizing ps with
  | nil =>
    have : ps = [] := by have := h.1; simpa using this.symm
    subst this
    exact h'
  | cons kv kvs ih =>
    obtain ⟨x, t, ps1, e, rfl, r⟩ := h.cases
    obtain ⟨k, v⟩ := kv
    simp at e
    subst e
    exact (ih r).cons
theorem PairsR.any {kvs : List (Int × Value)} {ps : Tab} (h : PairsR kvs ps) (k : Int) : (kvs.any fun kv => kv.1 = k) = ps.any fun p => p.1 = k := by
  induction kvs generalizing ps with
  | nil =>
    have : ps = [] := by have := h.1; simpa using this.symm
    subst this
    rfl
  | cons kv kvs ih =>
    obtain ⟨x, t, ps1, e, rfl, r⟩ := h.cases
    simp only [List.any_cons, ih r]
theorem PairsR.put {kvs : List (Int × Value)} {ps : Tab} (h : PairsR kvs ps) (k x : Int) (t : Tok) : PairsR (stored kvs k (.int x t)) (putT ps k x) := by
  unfold stored putT
  rw [h.any k]
  by_cases hany : (ps.any fun p => decide (p.1 = k)) = true
  rw [if_pos hany, if_pos hany]
  clear hany
  · induction kvs generalizing ps with
    | nil =>
      have : ps = [] := by have := h.1; simpa using this.symm
      subst this
      exact .nil
    | cons kv kvs ih =>
      obtain ⟨x1, t1, ps1, e, rfl, r⟩ := h.cases
      obtain ⟨k1, v1⟩ := kv
      simp at e
      subst e
      simp only [List.map_cons]
      by_cases hk : k1 = k
      · simp only [hk, if_true]
        exact (ih r).cons
      · simp only [if_neg hk]
        exact (ih r).cons
  · rw [if_neg hany, if_neg hany]
    exact h.append (PairsR.nil.cons)
theorem PairsR.get {kvs : List (Int × Value)} {ps : Tab} (h : PairsR kvs ps) (k : Int) : (valueAt kvs k = none ∧ getT ps k = none) ∨ ∃ x t, valueAt kvs k = some (.int x t) ∧ getT ps k = some x := by
  induction kvs generalizing ps with
  | nil =>
    have : ps = [] := by have := h.1; simpa using this.symm
    subst this
    exact .inl ⟨rfl, rfl⟩
  | cons kv kvs ih =>
    obtain ⟨x1, t1, ps1, e, rfl, r⟩ := h.cases
    obtain ⟨k1, v1⟩ := kv
    simp at e
    subst e
    by_cases hk : k1 = k
    · exact .inr ⟨x1, t1, by simp [valueAt, hk], by simp [getT, hk]⟩
    · have := ih r
      simpa [valueAt, getT, List.find?_cons, hk] using this
theorem PairsR.item {kvs : List (Int × Value)} {ps : Tab} (h : PairsR kvs ps) {i : Nat} {k : Int} {v : Value} (hx : kvs[i]? = some (k, v)) : ∃ x t, v = .int x t ∧ ps[i]? = some (k, x) := by
  induction kvs generalizing ps i with
  | nil => simp at hx
  | cons kv kvs ih =>
    obtain ⟨x1, t1, ps1, e, rfl, r⟩ := h.cases
    cases i with
    | zero =>
      simp at hx
      subst hx
      exact ⟨x1, t1, e, rfl⟩
    | succ i => exact ih r (by simpa using hx)
theorem PairsR.len {kvs : List (Int × Value)} {ps : Tab} (h : PairsR kvs ps) : kvs.length = ps.length := by
  have := congrArg List.length h.1
  simpa using this
theorem putT_len (ps : Tab) (k x : Int) : (putT ps k x).length ≤ ps.length + 1 := by
  unfold putT
  split <;> simp
theorem copy_take {ps : Tab} {i : Nat} {p : Int × Int} (h : ps[i]? = some p) : copyT (ps.take (i + 1)) = putT (copyT (ps.take i)) p.1 p.2 := by
  unfold copyT
  rw [List.take_add_one, h]
  simp
theorem merge_take {tp ps : Tab} {i : Nat} {p : Int × Int} (h : ps[i]? = some p) : mergeT tp (ps.take (i + 1)) = addT (mergeT tp (ps.take i)) p.1 p.2 := by
  unfold mergeT
  rw [List.take_add_one, h]
  simp
theorem foldput_len (g : Tab → Int → Int → Int) : ∀ (ps acc : Tab), (ps.foldl (fun acc p => putT acc p.1 (g acc p.1 p.2)) acc).length ≤ acc.length + ps.length
  | [], acc => by simp
  | p :: ps, acc => by
    have h := foldput_len g ps (putT acc p.1 (g acc p.1 p.2))
    have h2 := putT_len acc p.1 (g acc p.1 p.2)
    simp only [List.foldl_cons, List.length_cons]
    omega
theorem copy_len (ps : Tab) : (copyT ps).length ≤ ps.length := by simpa [copyT] using foldput_len (fun _ _ x => x) ps []
theorem merge_len (tp ps : Tab) : (mergeT tp ps).length ≤ tp.length + ps.length := by
  have h := foldput_len (fun acc k x => (getT acc k).getD 0 + x) ps (copyT tp)
  have h2 := copy_len tp
  have e : mergeT tp ps = ps.foldl (fun acc p => putT acc p.1 ((getT acc p.1).getD 0 + p.2)) (copyT tp) := rfl
  rw [e]
  omega
noncomputable abbrev caI1 (led : Led) (w : World) (tp : Tab) (sd : Addr) (i : Nat) (m₁ : Str → Option Value) (led₁ : Led) : Prop := ∃ nd o1 k1, (nd, o1) ∈ led₁ ∧ o1.IsDictOf (intKind PR w) k1 ∧ PairsR k1 (copyT (tp.take i)) ∧ (nd == sysModules) = false ∧ m₁ (Str.ofString "new_callers") = some (.ref nd) ∧ m₁ (Str.ofString "source") = some (.ref sd) ∧ ∀ p ∈ led, p ∈ led₁ ∧ p.1 ≠ nd
theorem caI1_out {P : Prop} {led : Led} {w : World} {tp : Tab} {sd : Addr} {i : Nat} {m₁ : Str → Option Value} {led₁ : Led} (H : caI1 led w tp sd i m₁ led₁) (kk : ∀ nd, ∀ o1, ∀ k1, ((nd, o1) ∈ led₁) → (o1.IsDictOf (intKind PR w) k1) → (PairsR k1 (copyT (tp.take i))) → ((nd == sysModules) = false) → (m₁ (Str.ofString "new_callers") = some (.ref nd)) → (m₁ (Str.ofString "source") = some (.ref sd)) → (∀ p ∈ led, p ∈ led₁ ∧ p.1 ≠ nd) →  P) : P := by
  obtain ⟨z0, z1, z2, z3, z4, z5, z6, z7, z8, z9⟩ := H
  exact kk z0 z1 z2 z3 z4 z5 z6 z7 z8 z9
noncomputable abbrev caI2 (led : Led) (w : World) (tp : Tab) (sp : Tab) (i : Nat) (m₁ : Str → Option Value) (led₁ : Led) : Prop := ∃ nd o1 k1, (nd, o1) ∈ led₁ ∧ o1.IsDictOf (intKind PR w) k1 ∧ PairsR k1 (mergeT tp (sp.take i)) ∧ (nd == sysModules) = false ∧ m₁ (Str.ofString "new_callers") = some (.ref nd) ∧ ∀ p ∈ led, p ∈ led₁ ∧ p.1 ≠ nd
theorem caI2_out {P : Prop} {led : Led} {w : World} {tp : Tab} {sp : Tab} {i : Nat} {m₁ : Str → Option Value} {led₁ : Led} (H : caI2 led w tp sp i m₁ led₁) (kk : ∀ nd, ∀ o1, ∀ k1, ((nd, o1) ∈ led₁) → (o1.IsDictOf (intKind PR w) k1) → (PairsR k1 (mergeT tp (sp.take i))) → ((nd == sysModules) = false) → (m₁ (Str.ofString "new_callers") = some (.ref nd)) → (∀ p ∈ led, p ∈ led₁ ∧ p.1 ≠ nd) →  P) : P := by
  obtain ⟨z0, z1, z2, z3, z4, z5, z6, z7, z8⟩ := H
  exact kk z0 z1 z2 z3 z4 z5 z6 z7 z8
theorem callers_spec {w : World} {led : Led} {td sd : Addr} {tp sp : Tab} (HT : DictInt w led td tp) (HS : DictInt w led sd sp) (lt : (td == sysModules) = false) (ls : (sd == sysModules) = false) (hl1 : tp.length ≤ 100) (hl2 : sp.length ≤ 100) :
    Spec w 154 10 60 [.ref td, .ref sd] led (fun v led' => ∃ d, v = .ref d ∧ DictInt w led' d (mergeT tp sp) ∧ (d == sysModules) = false ∧ ∀ p ∈ led, p ∈ led') := by
  intro mean mg mb dp un gd cn cs' a ccd cl outer A₀ base h₀ L m s Q E B F X N T hk hdp hu ret
  obtain ⟨ot, kt, hmt, hot, hkt⟩ := HT
  obtain ⟨os, ks, hms, hos, hks⟩ := HS
  walk_at "my enter"
  walk_at "my upto"
  refine wpAny_For ?_ (fun _ => rfl)
  walk_at "my upto"
  rename News _ _ _ _ => N1
  refine kdl_method (knd := PySem.intKind PR w) PySem.F.slot_dict_items PySem.F.type_dict_items N1 (List.mem_cons_of_mem _ hmt) hot ?_
  (try dsimp only)
  walk_at "my upto"
  rename Fr _ _ _ _ => F1
  rename News _ _ _ _ => N1
  rename (hd.heap_1 w.params).In _ => X1
  rename Obj.IsDictOf (intKind PR w) _ [] => hnd
  rename (_ == sysModules) = false => lnd
  rename (∀ p ∈ led, p.1 < _) => l1
  have hcls : ∀ {o : Obj} {kv : List (Int × Value)}, o.IsDictOf (intKind PR w) kv → o.cls ≠ .type "dict_itemiterator" := fun h => by
    obtain ⟨es, ep, e, _⟩ := h
    rw [e.1]
    decide
  refine for_items (knd := PySem.intKind PR w) (kvs := kt) (Ok := Still s) (caI1 led w tp sd)
    rfl rfl rfl rfl (fun _ _ _ => still_go _ _) ⟨_, _, rfl⟩ F1 N1 ⟨_, (N1 _ List.mem_cons_self).1, rfl, rfl⟩ (List.mem_cons_of_mem _ (List.mem_cons_of_mem _ hmt)) hot
    ⟨_, _, _, List.mem_cons_of_mem _ List.mem_cons_self, hnd, .nil, lnd, rfl, rfl, fun p hp => ⟨List.mem_cons_of_mem _ (List.mem_cons_of_mem _ hp), Nat.ne_of_lt (l1 p hp)⟩⟩ ?_ ?_ ?_
  · rintro i m₁ led₁ led₂ hk ⟨nd, o1, k1, h1, h2, h3, h4, h5, h6, h7⟩
    exact ⟨nd, o1, k1, hk _ h1 (.inr (hcls h2)), h2, h3, h4, h5, h6, fun p hp => ⟨hk p (h7 p hp).1 (.inl (led_le N1 p (List.mem_cons_of_mem _ (List.mem_cons_of_mem _ hp)))), (h7 p hp).2⟩⟩
  · intro i k key z m₁ led₁ s₁ HS
    refine still_out HS fun h2 tk2 => ?_
    clear HS s₁
    intro hi hkey hm1 HX
    refine caI1_out HX fun nd o1 k1 h1 h2' h3 h4 h5 h6 h7 => ?_
    clear HX
    intro F2 N2
    (try clear F1)
    (try clear N1)
    obtain ⟨x, tx, rfl, hx⟩ := PairsR.item hkt hi
    obtain ⟨tk9, rfl⟩ := Value.isInt_shape hkey
    have hlen := copy_len (tp.take i)
    have hlk := h3.len
    have hlt : (tp.take i).length ≤ 100 := by simp; omega
    walk_at "my upto"
    have hnI : ∀ p ∈ led₁, p.2.cls = .type "dict_itemiterator" → p.1 ≠ nd := fun p hp hc => News.ne N2 hp h1 (by rw [hc]; exact (hcls h2').symm)
    refine dict_set (knd := PySem.intKind PR w) (by k_asm) (by k_asm) h1 h2' hkey (by omega) ?_
    intro ha5 o5 F5 N5 hd5
    (try clear F2)
    (try clear N2)
    (try dsimp only)
    walk_at "my upto"
    exact ⟨_, _, ⟨_, _, rfl⟩, F5, N5, fun p hp hc => upd_other hp (hnI p hp hc), upd_other hm1 (h7 _ hmt).2, nd, o5, _, upd_self, hd5, by rw [copy_take hx]; exact h3.put _ _ _, h4, h5, h6, fun p hp => ⟨upd_other (h7 p hp).1 (h7 p hp).2, (h7 p hp).2⟩⟩
  · intro m₁ led₁ s₁ HS
    refine still_out HS fun h2 tk2 => ?_
    clear HS s₁
    intro HX
    refine caI1_out HX fun nd o1 k1 h1 h2' h3 h4 h5 h6 h7 => ?_
    clear HX
    intro F2 N2
    (try clear F1)
    (try clear N1)
    rw [show kt.length = tp.length from PairsR.len hkt, List.take_of_length_le (Nat.le_refl _)] at h3
    (try dsimp only)
    walk_at "my upto"
    refine wpAny_For ?_ (fun _ => rfl)
    walk_at "my upto"
    have hms1 := (h7 _ hms).1
    refine kdl_method (knd := PySem.intKind PR w) PySem.F.slot_dict_items PySem.F.type_dict_items N2 hms1 hos ?_
    (try dsimp only)
    walk_at "my upto"
    rename Fr _ _ _ _ => F1
    rename News _ _ _ _ => N1
    refine for_items (knd := PySem.intKind PR w) (kvs := ks) (Ok := Still s) (caI2 led w tp sp)
      rfl rfl rfl rfl (fun _ _ _ => still_go _ _) ⟨_, _, rfl⟩ F1 N1 ⟨_, (N1 _ List.mem_cons_self).1, rfl, rfl⟩ (List.mem_cons_of_mem _ (h7 _ hms).1) hos
      ⟨_, _, _, List.mem_cons_of_mem _ h1, h2', h3, h4, h5, fun p hp => ⟨List.mem_cons_of_mem _ (h7 p hp).1, (h7 p hp).2⟩⟩ ?_ ?_ ?_
    · rintro i m₁ led₁ led₂ hk ⟨nd, o1, k1, q1, q2, q3, q4, q5, q7⟩
      exact ⟨nd, o1, k1, hk _ q1 (.inr (hcls q2)), q2, q3, q4, q5, fun p hp => ⟨hk p (q7 p hp).1 (.inl (led_le N1 p (List.mem_cons_of_mem _ (h7 p hp).1))), (q7 p hp).2⟩⟩
    · intro i k key z m₁ led₁ s₁ HS
      refine still_out HS fun h2 tk2 => ?_
      clear HS s₁
      intro hi hkey hm1 HX
      refine caI2_out HX fun nd o1 k1 q1 q2 q3 q4 q5 q7 => ?_
      clear HX
      intro F2 N2
      (try clear F1)
      (try clear N1)
      obtain ⟨x, tx, rfl, hx⟩ := PairsR.item hks hi
      obtain ⟨tk9, rfl⟩ := Value.isInt_shape hkey
      have hlen := merge_len tp (sp.take i)
      have hlk := q3.len
      have hlt : (sp.take i).length ≤ 100 := by simp; omega
      have hnI : ∀ p ∈ led₁, p.2.cls = .type "dict_itemiterator" → p.1 ≠ nd := fun p hp hc => News.ne N2 hp q1 (by rw [hc]; exact (hcls q2).symm)
      walk_at "my upto"
      rcases q3.get k with ⟨g1, g2⟩ | ⟨y, ty, g1, g2⟩
      · refine kda_in (knd := PySem.intKind PR w) N2 q1 q2 q4 hkey false (by rw [g1]; rfl) ?_
        (try dsimp only)
        walk_at "my upto"
        refine dict_set (knd := PySem.intKind PR w) (by k_asm) (by k_asm) q1 q2 hkey (by omega) ?_
        intro ha5 o5 F5 N5 hd5
        (try clear F2)
        (try clear N2)
        (try dsimp only)
        walk_at "my upto"
        exact ⟨_, _, ⟨_, _, rfl⟩, F5, N5, fun p hp hc => upd_other hp (hnI p hp hc), upd_other hm1 (q7 _ hms).2, nd, o5, _, upd_self, hd5, by rw [merge_take hx, addT, g2]; first | exact q3.put _ _ _ | (have := q3.put k (0 + x) tx; simpa using this), q4, q5, fun p hp => ⟨upd_other (q7 p hp).1 (q7 p hp).2, (q7 p hp).2⟩⟩
      · refine kda_in (knd := PySem.intKind PR w) N2 q1 q2 q4 hkey true (by rw [g1]; rfl) ?_
        (try dsimp only)
        walk_at "my upto"
        refine kdt_getItem (knd := PySem.intKind PR w) N2 q1 q2 hkey g1 ?_
        (try dsimp only)
        walk_at "my upto"
        refine dict_set (knd := PySem.intKind PR w) (by k_asm) (by k_asm) q1 q2 hkey (by omega) ?_
        intro ha5 o5 F5 N5 hd5
        (try clear F2)
        (try clear N2)
        (try dsimp only)
        walk_at "my upto"
        exact ⟨_, _, ⟨_, _, rfl⟩, F5, N5, fun p hp hc => upd_other hp (hnI p hp hc), upd_other hm1 (q7 _ hms).2, nd, o5, _, upd_self, hd5, by rw [merge_take hx, addT, g2]; first | exact q3.put _ _ _ | (have := q3.put k (0 + x) tx; simpa using this), q4, q5, fun p hp => ⟨upd_other (q7 p hp).1 (q7 p hp).2, (q7 p hp).2⟩⟩
    · intro m₁ led₁ s₁ HS
      refine still_out HS fun h2 tk2 => ?_
      clear HS s₁
      intro HX
      refine caI2_out HX fun nd o1 k1 q1 q2 q3 q4 q5 q7 => ?_
      clear HX
      intro F2 N2
      (try clear F1)
      (try clear N1)
      rw [show ks.length = sp.length from PairsR.len hks, List.take_of_length_le (Nat.le_refl _)] at q3
      (try dsimp only)
      walk_at "my upto"
      rename Fr h₀ L _ _ => kF
      rename News h₀ L _ _ => kN
      exact ret _ _ _ _ kF kN ⟨nd, rfl, ⟨o1, k1, q1, q2, q3⟩, q4, fun p hp => (q7 p hp).1⟩
end
theorem off_G1 : True := by
  w_top off
  trivial
section
set_option maxHeartbeats 1000000
theorem DictInt.mono {w : World} {led led' : Led} {d : Addr} {ps : Tab} (H : DictInt w led d ps) (K : ∀ p ∈ led, p.1 = d → p ∈ led') : DictInt w led' d ps := by
  obtain ⟨o, kvs, h1, h2⟩ := H
  exact ⟨o, kvs, K _ h1 rfl, h2⟩
theorem stats_spec {w : World} {led : Led} {ta sa : Addr} {x1 x2 x3 x4 y1 y2 y3 y4 : Int} {tp sp : Tab} (BT : BookAt w led ta x1 x2 x3 x4 tp) (BS : BookAt w led sa y1 y2 y3 y4 sp) (hl1 : tp.length ≤ 100) (hl2 : sp.length ≤ 100) :
    Spec w 147 20 100 [.ref ta, .ref sa] led (fun v led' => ∃ a, v = .ref a ∧ BookAt w led' a (y1 + x1) (y2 + x2) (y3 + x3) (y4 + x4) (mergeT tp sp) ∧ ∀ p ∈ led, p ∈ led') := by
  intro mean mg mb dp un gd cn cs' a ccd cl outer A₀ base h₀ L m s Q E B F X N T hk hdp hu ret
  obtain ⟨t1, t2, t3, t4, td, tn, hmt, HT, lt⟩ := BT
  obtain ⟨u1, u2, u3, u4, sd, sn, hms, HS, ls⟩ := BS
  walk_at "my enter"
  walk_at "my upto"
  k_dflt (refine' (callers_spec (w := _) HT HS lt ls hl1 hl2).use ?B ?F ?X ?N ?T ?kK ?kd ?ku ?_)
  walk_at "use"
  intro v9 h9 tk9 n9 F9 N9 P9
  obtain ⟨d, rfl, HD, ld, K9⟩ := P9
  (try dsimp only)
  walk_at "my upto"
  rename Fr h₀ L _ _ => kF
  rename News h₀ L _ _ => kN
  exact ret _ _ _ _ kF kN ⟨_, rfl, ⟨_, _, _, _, d, _, List.mem_cons_self, HD.mono fun p hp _ => List.mem_cons_of_mem _ hp, ld⟩, fun p hp => List.mem_cons_of_mem _ (K9 p hp)⟩
end
section
set_option maxHeartbeats 1000000
noncomputable def FCell (Ok : Shared → Prop) (h₀ : Heap) (L I c : Addr) (need : Led) (It : Obj → Prop) (J : (Str → Option Value) → Led → Prop) (R : Result → Shared → Prop) (f : Flow) (s₂ : Shared) : Prop := match f with
  | .ret v => R (.ok (.ret v)) s₂
  | .brk => R (.ok .next) s₂
  | _ => ∃ m₂ led₂ o₂ oc₂ v₂, Ok s₂ ∧ Fr h₀ L s₂.heap m₂ ∧ News h₀ L s₂.heap led₂ ∧ (I, o₂) ∈ led₂ ∧ It o₂ ∧ (∀ p ∈ need, p ∈ led₂) ∧ (c, oc₂) ∈ led₂ ∧ oc₂.data = .cell v₂ ∧ J m₂ led₂
section
variable {prog : Program} {w : World} {A : Around} {s : Shared} {env : Env} {h₀ : Heap}
theorem forLoop_cell {R : Result → Shared → Prop} {x : Str} {px : Pos} {body : List Stmt} {Ok : Shared → Prop} {I c : Addr} {need : Led} {n : Nat} {P : Nat → Value → Prop} {It : Nat → Obj → Prop} {m : Str → Option Value} {led : Led} {o oc : Obj} {v₀ : Option Value} (J : Nat → (Str → Option Value) → Led → Prop)
    (S : Src prog w A I need n P It) (hkf : env.scope.kind = .function) (hx : env.kindOf x = some .cell) (hc : env.cells.lookup x = some c) (hIc : I ≠ c)
    (hgo : ∀ s₁ h tk, Ok s₁ → Ok { s₁ with heap := h, toks := tk }) (hs : Ok s) (F : Fr h₀ env.locals s.heap m) (N : News h₀ env.locals s.heap led) (hI : (I, o) ∈ led) (h0 : It 0 o) (hn : ∀ p ∈ need, p ∈ led) (hC : (c, oc) ∈ led) (hCd : oc.data = .cell v₀) (hJ : J 0 m led)
    (hne : ∀ p ∈ need, p.1 ≠ I ∧ p.1 ≠ c)
    (stable : ∀ i m₁ led₁ led₂ o₁ h, News h₀ env.locals h led₁ → (I, o₁) ∈ led₁ → It i o₁ → (∀ p ∈ led₁, p.1 ≠ I → p.1 ≠ c → p ∈ led₂) → J i m₁ led₁ → J i m₁ led₂)
    (step : ∀ i v m₁ led₁ s₁ o₁ oc₁, Ok s₁ → i < n → P i v → (I, o₁) ∈ led₁ → It (i + 1) o₁ → (∀ p ∈ need, p ∈ led₁) → (c, oc₁) ∈ led₁ → oc₁.data = .cell (some v) → J i m₁ led₁ → Fr h₀ env.locals s₁.heap m₁ → News h₀ env.locals s₁.heap led₁ →
      wpAny (model prog w) A (execs body env) (FCell Ok h₀ env.locals I c need (It (i + 1)) (J (i + 1)) R) No s₁)
    (done : ∀ m₁ led₁ s₁ oc₁ v₁, Ok s₁ → (∀ p ∈ need, p ∈ led₁) → (c, oc₁) ∈ led₁ → oc₁.data = .cell v₁ → J n m₁ led₁ → Fr h₀ env.locals s₁.heap m₁ → News h₀ env.locals s₁.heap led₁ → R (.ok .next) s₁) :
    codeAny (model prog w) A (.forLoop (.Name x px) (.ref I) body [] env) R s := by
  refine codeAny_forLoop (fun k s' => ∃ m' led' o' oc' v' i, Ok s' ∧ Fr h₀ env.locals s'.heap m' ∧ News h₀ env.locals s'.heap led' ∧ (I, o') ∈ led' ∧ It i o' ∧ (∀ p ∈ need, p ∈ led') ∧ (c, oc') ∈ led' ∧ oc'.data = .cell v' ∧ J i m' led' ∧ i ≤ n ∧ k = n + 1 - i) ?_ (n + 1)
    ⟨m, led, o, oc, v₀, 0, hs, F, N, hI, h0, hn, hC, hCd, hJ, Nat.zero_le _, rfl⟩
  rintro k s' ⟨m', led', o', oc', v', i, hs', F', N', hI', hit', hn', hC', hCd', hJ', hi, rfl⟩
  by_cases hlt : i < n
  · refine S.item hlt F' N' hI' hit' hn' fun v h₁ tk₁ o₁ hP hit₁ F₁ N₁ => ?_
    have hC₁ : (c, oc') ∈ upd I o₁ led' := upd_other hC' (Ne.symm hIc)
    refine wpAny_assign_Name (wpAny_storeName_cell hkf hx hc ⟨oc', (N₁ _ hC₁).1, hCd'⟩ fun h₂ hv₂ hs₂ => ?_)
    obtain ⟨oc₂, e₂, hd₂⟩ := hv₂
    have hk₂ : ∀ b y, b ≠ c → h₁.get? b = some y → h₂.get? b = some y := fun b y hb e => (hs₂.2 b hb).trans e
    have F₂ := fr_change F₁ N₁ hC₁ hk₂
    have N₂ := news_change N₁ hC₁ hk₂ e₂
    have hI₂ : (I, o₁) ∈ upd c oc₂ (upd I o₁ led') := upd_other upd_self hIc
    have J₂ := stable i m' led' (upd c oc₂ (upd I o₁ led')) o' _ N' hI' hit' (fun p hp h1 h2 => upd_other (upd_other hp h1) h2) hJ'
    refine wpAny_mono (step i v m' _ { s' with heap := h₂, toks := tk₁ } o₁ oc₂ (hgo _ _ _ hs') hlt hP hI₂ hit₁ (fun p hp => upd_other (upd_other (hn' p hp) (hne p hp).1) (hne p hp).2) upd_self hd₂ J₂ F₂ N₂) (fun f s₃ h₃ => ?_) fun _ _ (e : False) => e.elim
    cases f with
    | ret v => exact h₃
    | brk => exact h₃
    | next =>
      obtain ⟨m₂, led₂, o₂, oc₃, v₃, a1, a2, a3, a4, a5, a6, a7, a8, a9⟩ := h₃
      exact ⟨n + 1 - (i + 1), by omega, m₂, led₂, o₂, oc₃, v₃, i + 1, a1, a2, a3, a4, a5, a6, a7, a8, a9, hlt, rfl⟩
    | cont =>
      obtain ⟨m₂, led₂, o₂, oc₃, v₃, a1, a2, a3, a4, a5, a6, a7, a8, a9⟩ := h₃
      exact ⟨n + 1 - (i + 1), by omega, m₂, led₂, o₂, oc₃, v₃, i + 1, a1, a2, a3, a4, a5, a6, a7, a8, a9, hlt, rfl⟩
  · have hin : i = n := by omega
    subst hin
    refine S.done F' N' hI' hit' hn' fun h₁ tk₁ F₁ N₁ => wpAny_execs_nil ?_
    have hk : Keeps1 I led' (led'.filter (fun p => p.1 != I)) := fun p hp hne => List.mem_filter.mpr ⟨hp, by simpa using hne⟩
    exact done m' _ _ oc' v' (hgo _ _ _ hs') (fun p hp => hk p (hn' p hp) (hne p hp).1) (hk _ hC' (Ne.symm hIc)) hCd' (stable i m' led' _ o' _ N' hI' hit' (fun p hp h1 _ => hk p hp h1) hJ') F₁ N₁
end
noncomputable def GCell (Ok : Shared → Prop) (h₀ : Heap) (L c : Addr) (led₁ : Led) (J : (Str → Option Value) → Led → Prop) (f : Flow) (s₂ : Shared) : Prop := match f with
  | .ret _ => False
  | .brk => False
  | _ => ∃ m₂ led₂ oc₂ v₂, Ok s₂ ∧ Fr h₀ L s₂.heap m₂ ∧ News h₀ L s₂.heap led₂ ∧ (∀ p ∈ led₁, p.2.cls = .type "range_iterator" → p ∈ led₂) ∧ (c, oc₂) ∈ led₂ ∧ oc₂.data = .cell v₂ ∧ J m₂ led₂
section
variable {prog : Program} {w : World} {A : Around} {E : Value → Shared → Prop} {s : Shared} {env : Env} {h₀ : Heap} {m : Str → Option Value} {led : Led}
theorem for_goC {R : Result → Shared → Prop} {x : Str} {px : Pos} {body : List Stmt} {Ok : Shared → Prop} {c : Addr} {n : Nat} {o oc : Obj} {v₀ : Option Value} (J : Nat → (Str → Option Value) → Led → Prop)
    (hh : A.handled = none) (hkf : env.scope.kind = .function) (hx : env.kindOf x = some .cell) (hc : env.cells.lookup x = some c)
    (hgo : ∀ s₁ h tk, Ok s₁ → Ok { s₁ with heap := h, toks := tk }) (hs : Ok s) (F : Fr h₀ env.locals s.heap m) (N : News h₀ env.locals s.heap led) (h0 : isRangeIt n 0 o) (hC : (c, oc) ∈ led) (hCd : oc.data = .cell v₀) (hJ : J 0 m led)
    (stable : ∀ i m₁ led₁ led₂, (∀ p ∈ led₁, p.1 ≠ c → (p.1 < s.heap.objs.size ∨ p.2.cls ≠ .type "range_iterator") → p ∈ led₂) → J i m₁ led₁ → J i m₁ led₂)
    (step : ∀ i t m₁ led₁ s₁ oc₁, Ok s₁ → i < n → (c, oc₁) ∈ led₁ → oc₁.data = .cell (some (.int (i : Nat) t)) → J i m₁ led₁ → Fr h₀ env.locals s₁.heap m₁ → News h₀ env.locals s₁.heap led₁ →
      wpAny (model prog w) A (execs body env) (GCell Ok h₀ env.locals c led₁ (J (i + 1))) No s₁)
    (done : ∀ m₁ led₁ s₁, Ok s₁ → J n m₁ led₁ → Fr h₀ env.locals s₁.heap m₁ → News h₀ env.locals s₁.heap led₁ → R (.ok .next) s₁) :
    codeAny (model prog w) A (.forLoop (.Name x px) (.ref s.heap.objs.size) body [] env) R { s with heap := s.heap.push o } := by
  have hcI : c ≠ s.heap.objs.size := Nat.ne_of_lt (led_le N _ hC)
  refine forLoop_cell (s := { s with heap := s.heap.push o }) (led := (s.heap.objs.size, o) :: led) (Ok := Ok) J (srcRange hh n) hkf hx hc (Ne.symm hcI) hgo (hgo s _ s.toks hs) (F.push _) (fun p hp => ?_) List.mem_cons_self h0 (fun p hp => nomatch hp) (List.mem_cons_of_mem _ hC) hCd (stable 0 m led _ (fun p hp _ _ => List.mem_cons_of_mem _ hp) hJ) (fun p hp => nomatch hp) ?_ ?_ ?_
  · rcases List.mem_cons.mp hp with rfl | hp
    · exact fresh_led F (Nat.le_refl _) (Heap.get?_push_size _ (by rw [h0]; rfl))
    · exact ⟨Heap.get?_push_of_some _ (N p hp).1, (N p hp).2⟩
  · intro i m₁ led₁ led₂ o₁ h N₁ hI hit hk hJ₁
    refine stable i m₁ led₁ led₂ (fun p hp hpc hc => hk p hp (fun z => ?_) hpc) hJ₁
    rcases hc with hc | hc
    · rw [z] at hc
      exact Nat.lt_irrefl _ hc
    · have e1 := (N₁ p hp).1
      have e2 := (N₁ _ hI).1
      rw [z] at e1
      rw [show h.get? s.heap.objs.size = some o₁ from e2] at e1
      exact hc (by rw [← Option.some.inj e1, hit])
  · intro i v m₁ led₁ s₁ o₁ oc₁ hs₁ hi hP hI hit hn₁ hC₁ hCd₁ hJ₁ F₁ N₁
    obtain ⟨_, t, rfl⟩ := hP
    refine wpAny_mono (step i t m₁ led₁ s₁ oc₁ hs₁ hi hC₁ (by simpa using hCd₁) hJ₁ F₁ N₁) (fun f s₂ h₂ => ?_) fun _ _ e => e
    cases f with
    | ret v => exact h₂.elim
    | brk => exact h₂.elim
    | next =>
      obtain ⟨m₂, led₂, oc₂, v₂, a1, a2, a3, a4, a5, a6, a7⟩ := h₂
      exact ⟨m₂, led₂, o₁, oc₂, v₂, a1, a2, a3, a4 _ hI (by rw [hit]), hit, (fun p hp => nomatch hp), a5, a6, a7⟩
    | cont =>
      obtain ⟨m₂, led₂, oc₂, v₂, a1, a2, a3, a4, a5, a6, a7⟩ := h₂
      exact ⟨m₂, led₂, o₁, oc₂, v₂, a1, a2, a3, a4 _ hI (by rw [hit]), hit, (fun p hp => nomatch hp), a5, a6, a7⟩
  · exact fun m₁ led₁ s₁ oc₁ v₁ hs₁ _ _ _ hJ₁ F₁ N₁ => done m₁ led₁ s₁ hs₁ hJ₁ F₁ N₁
theorem for_rangeC {R : Result → Shared → Prop} {x : Str} {px : Pos} {body : List Stmt} {Ok : Shared → Prop} {ar c : Addr} {b : Int} {t u v : Tok} {n : Nat} {oc : Obj} {v₀ : Option Value} (J : Nat → (Str → Option Value) → Led → Prop)
    (hb : b = (n : Int)) (hn : n ≤ 1000)
    (hh : A.handled = none) (hkf : env.scope.kind = .function) (hx : env.kindOf x = some .cell) (hc : env.cells.lookup x = some c)
    (hgo : ∀ s₁ h tk, Ok s₁ → Ok { s₁ with heap := h, toks := tk }) (hs : Ok s) (F : Fr h₀ env.locals s.heap m) (N : News h₀ env.locals s.heap led) (hr : IsRange s.heap ar 0 b 1 t u v) (hC : (c, oc) ∈ led) (hCd : oc.data = .cell v₀) (hJ : J 0 m led)
    (stable : ∀ i m₁ led₁ led₂, (∀ p ∈ led₁, p.1 ≠ c → (p.1 < s.heap.objs.size ∨ p.2.cls ≠ .type "range_iterator") → p ∈ led₂) → J i m₁ led₁ → J i m₁ led₂)
    (step : ∀ i t m₁ led₁ s₁ oc₁, Ok s₁ → i < n → (c, oc₁) ∈ led₁ → oc₁.data = .cell (some (.int (i : Nat) t)) → J i m₁ led₁ → Fr h₀ env.locals s₁.heap m₁ → News h₀ env.locals s₁.heap led₁ →
      wpAny (model prog w) A (execs body env) (GCell Ok h₀ env.locals c led₁ (J (i + 1))) No s₁)
    (done : ∀ m₁ led₁ s₁, Ok s₁ → J n m₁ led₁ → Fr h₀ env.locals s₁.heap m₁ → News h₀ env.locals s₁.heap led₁ → R (.ok .next) s₁) :
    wpAny (model prog w) A (pyIter (.ref ar)) (fun it s₂ => codeAny (model prog w) A (.forLoop (.Name x px) it body [] env) R s₂) E s := by
  subst hb
  refine wpAny_pyIter_range hr (small_one (by omega) (by omega) (by omega) (by omega)) ?_
  rw [rangeSize_nat]
  exact for_goC (n := n) J hh hkf hx hc hgo hs F N (by simp [isRangeIt]) hC hCd hJ stable step done
end
theorem lst_append2 {prog : Program} {w : World} {A : Around} {E : Value → Shared → Prop} {s : Shared} {h₀ : Heap} {L D : Addr} {m : Str → Option Value} {led : Led} {its : Array Value} {n : Nat} {x : Value} {Q : Value → Shared → Prop} (F : Fr h₀ L s.heap m) (N : News h₀ L s.heap led) (hm : (D, listOf its n) ∈ led) (hz : its.size < 1000000)
    (h : ∀ h', Fr h₀ L h' m → News h₀ L h' (upd D (listOf (its.push x) (n + 1)) led) → Q .none { s with heap := h' }) : wpAny (model prog w) A (call (.builtin "list.append") [.ref D, x]) Q E s :=
  append_at (hsz := by rw [sizeLine_eq]; omega) (N _ hm).1 fun h' hs ho' => h h' (fr_change F N hm fun b y hb e => hs.extBut b y hb e) (news_change N hm (fun b y hb e => hs.extBut b y hb e) ho')
end
theorem off_G3 : True := by
  w_top off
  trivial
section
set_option maxHeartbeats 1000000
local macro_rules | `(tactic| walk_at "cut on") => `(tactic| skip)
noncomputable def othersN (cs : List Nat) (t : Nat) : List Nat := ((List.range cs.length).drop (t + 1)).filter fun s => subN (cs.getD t 0) (cs.getD s 0) == 1
noncomputable def sewOne (t : Nat) (row : List Nat) (s : Nat) : Option (List Nat) := if row.getD s 0 = 0 then some ((row.set t (s + 1)).set s (t + 1)) else none
noncomputable def sewRow (cs : List Nat) (t : Nat) (row : List Nat) : List (List Nat) := if row.getD t 0 = 0 then (othersN cs t).filterMap (sewOne t row) else [row]
noncomputable def sewTo (cs : List Nat) : Nat → List (List Nat)
  | 0 => [List.replicate cs.length 0]
  | t + 1 => (sewTo cs t).flatMap (sewRow cs t)
noncomputable abbrev rowInts (row : List Nat) : List Int := row.map fun (x : Nat) => (x : Int) - 1
noncomputable def RowAt (led : Led) (a : Addr) (row : List Nat) : Prop := ∃ its n, (a, listOf its n) ∈ led ∧ IntsAre its.toList (rowInts row)
noncomputable def RowsAt (led : Led) (rs : List Addr) (rows : List (List Nat)) : Prop := rs.length = rows.length ∧ ∀ (j : Nat) (a : Addr) (row : List Nat), rs[j]? = some a → rows[j]? = some row → RowAt led a row
theorem RowAt.mono {led led' : Led} {a : Addr} {row : List Nat} (H : RowAt led a row) (K : ∀ its n, (a, listOf its n) ∈ led → (a, listOf its n) ∈ led') : RowAt led' a row :=
  let ⟨its, n, h1, h2⟩ := H; ⟨its, n, K _ _ h1, h2⟩
theorem RowsAt.mono {led led' : Led} {rs : List Addr} {rows : List (List Nat)} (H : RowsAt led rs rows) (K : ∀ a ∈ rs, ∀ its n, (a, listOf its n) ∈ led → (a, listOf its n) ∈ led') : RowsAt led' rs rows :=
  ⟨H.1, fun j a row h1 h2 => (H.2 j a row h1 h2).mono (K a (List.mem_of_getElem? h1))⟩
theorem RowsAt.snoc {led : Led} {rs : List Addr} {rows : List (List Nat)} {a : Addr} {row : List Nat} (H : RowsAt led rs rows) (h : RowAt led a row) : RowsAt led (rs ++ [a]) (rows ++ [row]) := by
  refine ⟨by simp [H.1], fun j b r h1 h2 => ?_⟩
  by_cases hj : j < rs.length
  · rw [List.getElem?_append_left hj] at h1
    rw [List.getElem?_append_left (by rw [← H.1]; exact hj)] at h2
    exact H.2 j b r h1 h2
  · have e : j = rs.length := by
      have := (List.getElem?_eq_some_iff.mp h1).1
      simp at this
      omega
    subst e
    simp at h1
    rw [H.1] at h2
    simp at h2
    subst h1 h2
    exact h
local macro_rules | `(tactic| walk_at "eval Name") => `(tactic| (k_here; (with_reducible show wpAny _ _ (eval (Expr.Name _ _) (envX _ _ _ _ _ _)) _ _ _); k_dflt (first
  | (refine' nameX_L ?F ?v ?_ ?hk ?hx; (case hk => exact rfl); (case hx => exact rfl); (case F => k_asm); (case v => first | assumption | exact rfl); k_whole)
  | (refine' nameX_C ?N ?c ?m ?d ?_ ?hk ?hx; (case hk => exact rfl); (case hx => exact rfl); (case N => k_asm); (case c => exact rfl); (case m => k_mem); (case d => k_asm); k_whole)
  | (refine' nameX_K ?F ?X ?T ?e ?_ ?hk ?hx; (case hk => exact rfl); (case hx => exact rfl); (case F => k_asm); (case X => k_asm); (case T => exact topRead_of (by k_asm)); (case e => k_is); k_whole)
  | (refine' nameX_B ?F ?X ?T ?e ?v ?n ?_ ?hk ?hx; (case hk => exact rfl); (case hx => exact rfl); (case F => k_asm); (case X => k_asm); (case T => exact topRead_of (by k_asm)); (case e => k_is); (case v => boot_by_name); (case n => decide); k_whole))))
local macro_rules | `(tactic| walk_at "eval Name") => `(tactic| (k_here; (with_reducible show wpAny _ _ (eval (Expr.Name _ _) (compEnvC _ _ _ _)) _ _ _); k_dflt (first
  | refine LCgL.ld_own (by k_asm) (by k_mem) (by assumption) (by assumption) ?_
  | (refine' lcf_cell ?N ?c ?m ?d ?_ ?a ?b; (case a => exact rfl); (case b => exact rfl); (case N => k_asm); (case c => exact rfl); (case m => k_mem); (case d => k_asm); k_whole)
  | refine LCgL.ld_global (by k_asm) (by k_asm) (by k_asm) (by k_is) ?_
  | refine LCgL.ld_built (by k_asm) (by k_asm) (by k_asm) (by k_is) (by boot_by_name) (by decide) ?_)))
local macro_rules | `(tactic| walk_at "my stop2") => `(tactic| (walk_at "my stop"; (fail_if_success (with_reducible show wpAny _ _ (exec (Stmt.Assign _ (Expr.ListComp _ _ _ _) _) _) _ _ _)); (fail_if_success (with_reducible show LCt.CompSrcT _ _ _ _ _ _ _ _ _ _ _ _ _ _ _))))
local macro_rules | `(tactic| walk_at "my upto2") => `(tactic| repeat' (first | (walk_at "my cut") | (k_unfold; (try dsimp only)) | (walk_at "my stop2"; walk1) | (walk_at "my stop2"; dsimp only; walk_at "my stop2"; walk1)))
theorem item_row {prog : Program} {w : World} {A : Around} {E : Value → Shared → Prop} {s : Shared} {h₀ : Heap} {L l : Addr} {led : Led} {its : Array Value} {n : Nat} {row : List Nat} {j : Nat} {u : Tok} {value slice : PySem.Expr} {Q : Value → Shared → Prop} (N : News h₀ L s.heap led) (hm : (l, listOf its n) ∈ led) (hi : IntsAre its.toList (rowInts row)) (hj : j < row.length) (hj2 : j < 1000)
    (h : ∀ t', Q (.int (((row.getD j 0 : Nat) : Int) - 1) t') s)
    (hs : subscripted slice false (.ref l) (.int (j : Nat) u) = operate [.ref l, .int (j : Nat) u] (getItem (.ref l) (.int (j : Nat) u)) := by with_unfolding_all rfl) (hg : ∀ r, letTemporaryGo value (.ref l) r = pure () := by intro _; with_unfolding_all rfl) :
    wpAny (model prog w) A (subscriptTail value slice (.ref l) (.int (j : Nat) u)) Q E s := by
  have hlen := hi.length
  simp at hlen
  have hjs : j < its.size := by omega
  have hx : its[j]? = some its[j] := Array.getElem?_eq_getElem hjs
  obtain ⟨x, t, e, hx2⟩ := ints_at2 hi (j := j) (v := its[j]) (by simpa using hx)
  have e2 : x = ((row.getD j 0 : Nat) : Int) - 1 := by
    simp [List.getD_eq_getElem?_getD, hj] at hx2 ⊢
    exact hx2.symm
  refine item_list ((ListAt.of hm).isList N) (by omega) (by omega) (x := .int x t) (by rw [Int.toNat_natCast, hx, e]) ?_ hs hg
  rw [e2]
  exact h t
local macro_rules | `(tactic| walk_at "subscriptTail") => `(tactic| (k_here; (with_reducible show wpAny _ _ (subscriptTail _ _ (Value.ref _) (Value.int _ _)) _ _ _); k_dflt (refine' item_row ?N ?m ?i ?j ?k ?_ (by with_unfolding_all rfl) (by intro _; with_unfolding_all rfl); (case N => k_asm); (case m => k_mem); (case i => assumption); (case j => omega); (case k => omega)); intro t'))
local macro_rules | `(tactic| walk_at "call builtin:list.append") => `(tactic| (k_here; k_dflt (refine' lst_append2 ?F ?N ?m ?z ?_; (case F => k_asm); (case N => k_asm); (case m => k_mem); (case z => assumption); k_whole); intro h' F' N'))
local macro_rules | `(tactic| walk_at "call type:list") => `(tactic| (k_here; (with_reducible show wpAny _ _ (call (Value.type _) [Value.ref _]) _ _ _); k_dflt (refine' list_copyK ?F ?N ?l ?_ ?z; (case F => k_asm); (case N => k_asm); (case l => exact ListAt.isList (ListAt.of (by k_mem)) (by k_asm)); (case z => rw [sizeLine_eq]; omega)); intro D' c' h' F' N' l1))
theorem item_txt {cs : List Nat} {i : Nat} (h : i < cs.length) : Txt.item (txt cs) (i : Int) = sg (cs.getD i 0) := by
  have hx : (txt cs).length = cs.length := by simp [Str.length]
  have e : Txt.charAt (txt cs) (i : Int) = some (cs.getD i 0) := by
    unfold Txt.charAt seqIndex?
    rw [hx]
    simp only [show ¬ ((i : Int) < 0) by omega, if_false]
    rw [if_pos (by simp; omega)]
    simp [txt, h]
  unfold Txt.item
  rw [e]
  rfl
theorem others_fold {cs : List Nat} {i : Nat} (h : i < cs.length) : (rangeKs ((i : Int) + 1) (cs.length - (i + 1))).foldl (fun l k => if subN (cs.getD i 0) (cs.getD k.toNat 0) = 1 then l ++ [k] else l) [] = (othersN cs i).map fun (x : Nat) => (x : Int) := by
  have hr : (List.range cs.length).drop (i + 1) = (List.range (cs.length - (i + 1))).map fun j => i + 1 + j := by
    apply List.ext_getElem
    · simp
    · intro k h1 h2
      simp
  unfold othersN rangeKs
  rw [hr]
  have key : ∀ (l : List Nat) (acc : List Int), (l.map fun (j : Nat) => ((i : Int) + 1) + (j : Int)).foldl (fun l k => if subN (cs.getD i 0) (cs.getD k.toNat 0) = 1 then l ++ [k] else l) acc = acc ++ (((l.map fun j => i + 1 + j).filter fun s => subN (cs.getD i 0) (cs.getD s 0) == 1).map fun (x : Nat) => (x : Int)) := by
    intro l
    induction l with
    | nil => intro acc; simp
    | cons j l ih =>
      intro acc
      have e : ((i : Int) + 1 + (j : Int)).toNat = i + 1 + j := by omega
      have e2 : ((i + 1 + j : Nat) : Int) = (i : Int) + 1 + (j : Int) := by omega
      simp only [List.map_cons, List.foldl_cons, e]
      rw [ih]
      by_cases hs : subN (cs.getD i 0) (cs.getD (i + 1 + j) 0) = 1
      · rw [if_pos hs, List.filter_cons, if_pos (beq_iff_eq.mpr hs), List.map_cons, e2]
        simp
      · rw [if_neg hs, List.filter_cons, if_neg (fun h => hs (beq_iff_eq.mp h))]
  have := key (List.range (cs.length - (i + 1))) []
  simpa using this
theorem sew_len {cs : List Nat} : ∀ {i : Nat} (row : List Nat), row ∈ sewTo cs i → row.length = cs.length
  | 0, row, h => by
    rw [sewTo, List.mem_singleton] at h
    simp [h]
  | i + 1, row, h => by
    obtain ⟨r, hr, h⟩ := List.mem_flatMap.mp h
    have ih := sew_len r hr
    unfold sewRow at h
    split at h
    · obtain ⟨s, _, hs⟩ := List.mem_filterMap.mp h
      unfold sewOne at hs
      split at hs
      · rw [← Option.some.inj hs]
        simp [ih]
      · cases hs
    · rw [List.mem_singleton.mp h]
      exact ih
theorem flat_take {f : List Nat → List (List Nat)} {l : List (List Nat)} {j : Nat} {row : List Nat} (h : l[j]? = some row) : (l.take (j + 1)).flatMap f = (l.take j).flatMap f ++ f row := by
  rw [List.take_add_one, h, List.flatMap_append]
  simp
theorem flat_take_le (f : List Nat → List (List Nat)) (l : List (List Nat)) (j : Nat) : ((l.take j).flatMap f).length ≤ (l.flatMap f).length := by
  conv => rhs; rw [← List.take_append_drop j l, List.flatMap_append, List.length_append]
  omega
theorem allLt_mem {d : Addr} {l : Led} (h : AllLt d l) : ∀ p ∈ l, p.1 < d := by
  induction l with
  | nil => exact fun p hp => nomatch hp
  | cons q l ih =>
    intro p hp
    have h2 : q.1 < d ∧ AllLt d l := h
    rcases List.mem_cons.mp hp with e | hp
    · rw [e]
      exact h2.1
    · exact ih h2.2 p hp
theorem push_ref (ls : List Addr) (a : Addr) : (ls.map Value.ref).toArray.push (.ref a) = ((ls ++ [a]).map Value.ref).toArray := by simp
theorem others_lt {cs : List Nat} {i s : Nat} (h : s ∈ othersN cs i) : i < s ∧ s < cs.length := by
  have h2 := (List.mem_filter.mp h).1
  obtain ⟨k, hk, rfl⟩ := List.getElem_of_mem h2
  simp at hk ⊢
  omega
theorem fm_take {f : Nat → Option (List Nat)} {l : List Nat} {j x : Nat} (h : l[j]? = some x) : (l.take (j + 1)).filterMap f = (l.take j).filterMap f ++ (f x).toList := by
  rw [List.take_add_one, h, List.filterMap_append]
  cases hf : f x <;> simp [hf]
local macro_rules | `(tactic| walk_at "my stop3") => `(tactic| (walk_at "my stop0"; (fail_if_success (with_reducible show wpAny _ _ (setItem (Value.ref _) _ _) _ _ _)); (fail_if_success (with_reducible show wpAny _ _ (call (Value.builtin "list.append") _) _ _ _))))
local macro_rules | `(tactic| walk_at "my upto3") => `(tactic| repeat' (first | (walk_at "my cut") | (k_unfold; (try dsimp only)) | (walk_at "my stop3"; walk1) | (walk_at "my stop3"; dsimp only; walk_at "my stop3"; walk1)))
theorem fm_take_le (f : Nat → Option (List Nat)) (l : List Nat) (j : Nat) : ((l.take j).filterMap f).length ≤ (l.filterMap f).length := by
  conv => rhs; rw [← List.take_append_drop j l, List.filterMap_append, List.length_append]
  omega
theorem mem_upd_N {h₀ h : Heap} {L S : Addr} {led : Led} {o : Obj} {p : Addr × Obj} (_ : News h₀ L h (upd S o led)) (hp : p ∈ led) (hne : p.1 ≠ S) : p ∈ upd S o led := upd_other hp hne
theorem keep3 {h₀ h : Heap} {L S la : Addr} {led : Led} {o0 o1 o2 o3 : Obj} (_ : News h₀ L h (upd la o3 (upd S o2 (upd S o1 ((S, o0) :: led))))) (hS : ∀ p ∈ led, p.1 ≠ S) : ∀ p ∈ led, p.1 ≠ la → p ∈ upd la o3 (upd S o2 (upd S o1 ((S, o0) :: led))) :=
  fun p hp hne => upd_other (upd_other (upd_other (List.mem_cons_of_mem _ hp) (hS p hp)) (hS p hp)) hne
noncomputable abbrev swI1 (led : Led) (cs : List Nat) (LA : Addr) (ow : Obj) (i : Nat) (m₁ : Str → Option Value) (led₁ : Led) : Prop := ∃ (ra : Addr) (rs : List Addr) (n : Nat), (ra, listOf (rs.map Value.ref).toArray n) ∈ led₁ ∧ RowsAt led₁ rs (sewTo cs i) ∧ (∀ a ∈ ra :: rs, a ≠ LA + 1 + 1) ∧ m₁ (Str.ofString "rows") = some (.ref ra) ∧ (LA + 1, ow) ∈ led₁ ∧ ∀ p ∈ led, p ∈ led₁
theorem swI1_out {P : Prop} {led : Led} {cs : List Nat} {LA : Addr} {ow : Obj} {i : Nat} {m₁ : Str → Option Value} {led₁ : Led} (H : swI1 led cs LA ow i m₁ led₁) (kk : ∀ (ra : Addr), ∀ (rs : List Addr), ∀ (n : Nat), ((ra, listOf (rs.map Value.ref).toArray n) ∈ led₁) → (RowsAt led₁ rs (sewTo cs i)) → ((∀ a ∈ ra :: rs, a ≠ LA + 1 + 1)) → (m₁ (Str.ofString "rows") = some (.ref ra)) → ((LA + 1, ow) ∈ led₁) → (∀ p ∈ led, p ∈ led₁) →  P) : P := by
  obtain ⟨z0, z1, z2, z3, z4, z5, z6, z7, z8⟩ := H
  exact kk z0 z1 z2 z3 z4 z5 z6 z7 z8
noncomputable abbrev swI2 (led₁ : Led) (cs : List Nat) (LA : Addr) (D : Addr) (i : Nat) (ys : List Value) (j : Nat) (m₂ : Str → Option Value) (led₂ : Led) : Prop := ∃ (la : Addr) (ls : List Addr) (n : Nat), (la, listOf (ls.map Value.ref).toArray n) ∈ led₂ ∧ RowsAt led₂ ls (((sewTo cs i).take j).flatMap (sewRow cs i)) ∧ (la ≠ LA + 1 + 1 ∧ la ≠ D ∧ ∀ p ∈ led₁, p.1 ≠ la) ∧ (∀ a ∈ ls, a ≠ LA + 1 + 1 ∧ a ≠ la) ∧ m₂ (Str.ofString "longer") = some (.ref la) ∧ m₂ (Str.ofString "others") = some (.ref D) ∧ (D, LCg.lst ys) ∈ led₂ ∧ ∀ p ∈ led₁, p ∈ led₂
theorem swI2_out {P : Prop} {led₁ : Led} {cs : List Nat} {LA : Addr} {D : Addr} {i : Nat} {ys : List Value} {j : Nat} {m₂ : Str → Option Value} {led₂ : Led} (H : swI2 led₁ cs LA D i ys j m₂ led₂) (kk : ∀ (la : Addr), ∀ (ls : List Addr), ∀ (n : Nat), ((la, listOf (ls.map Value.ref).toArray n) ∈ led₂) → (RowsAt led₂ ls (((sewTo cs i).take j).flatMap (sewRow cs i))) → ((la ≠ LA + 1 + 1 ∧ la ≠ D ∧ ∀ p ∈ led₁, p.1 ≠ la)) → ((∀ a ∈ ls, a ≠ LA + 1 + 1 ∧ a ≠ la)) → (m₂ (Str.ofString "longer") = some (.ref la)) → (m₂ (Str.ofString "others") = some (.ref D)) → ((D, LCg.lst ys) ∈ led₂) → (∀ p ∈ led₁, p ∈ led₂) →  P) : P := by
  obtain ⟨z0, z1, z2, z3, z4, z5, z6, z7, z8, z9, z10⟩ := H
  exact kk z0 z1 z2 z3 z4 z5 z6 z7 z8 z9 z10
noncomputable abbrev swI3 (led₂ : Led) (cs : List Nat) (a9 : Addr) (LA : Addr) (D : Addr) (i : Nat) (la : Addr) (row : List Nat) (j : Nat) (l : Nat) (m₃ : Str → Option Value) (led₃ : Led) : Prop := ∃ (ls : List Addr) (n : Nat), (la, listOf (ls.map Value.ref).toArray n) ∈ led₃ ∧ RowsAt led₃ ls (((sewTo cs i).take j).flatMap (sewRow cs i) ++ ((othersN cs i).take l).filterMap (sewOne i row)) ∧ (∀ a ∈ ls, a ≠ LA + 1 + 1 ∧ a ≠ la) ∧ m₃ (Str.ofString "longer") = some (.ref la) ∧ m₃ (Str.ofString "others") = some (.ref D) ∧ m₃ (Str.ofString "row") = some (.ref a9) ∧ Keeps1 la led₂ led₃
theorem swI3_out {P : Prop} {led₂ : Led} {cs : List Nat} {a9 : Addr} {LA : Addr} {D : Addr} {i : Nat} {la : Addr} {row : List Nat} {j : Nat} {l : Nat} {m₃ : Str → Option Value} {led₃ : Led} (H : swI3 led₂ cs a9 LA D i la row j l m₃ led₃) (kk : ∀ (ls : List Addr), ∀ (n : Nat), ((la, listOf (ls.map Value.ref).toArray n) ∈ led₃) → (RowsAt led₃ ls (((sewTo cs i).take j).flatMap (sewRow cs i) ++ ((othersN cs i).take l).filterMap (sewOne i row))) → ((∀ a ∈ ls, a ≠ LA + 1 + 1 ∧ a ≠ la)) → (m₃ (Str.ofString "longer") = some (.ref la)) → (m₃ (Str.ofString "others") = some (.ref D)) → (m₃ (Str.ofString "row") = some (.ref a9)) → (Keeps1 la led₂ led₃) →  P) : P := by
  obtain ⟨z0, z1, z2, z3, z4, z5, z6, z7, z8⟩ := H
  exact kk z0 z1 z2 z3 z4 z5 z6 z7 z8
theorem sewings_spec {w : World} {led : Led} {cs : List Nat} {t : Tok} (hl : cs.length < 20) (hL : Letters cs) (hB : ∀ i, i ≤ cs.length → (sewTo cs i).length ≤ 100000) :
    SpecG w 215 20 100 [.str (txt cs) t] led (fun v led' => ∃ (ra : Addr) (rs : List Addr) (n : Nat), v = .ref ra ∧ (ra, listOf (rs.map Value.ref).toArray n) ∈ led' ∧ RowsAt led' rs (sewTo cs cs.length) ∧ ∀ p ∈ led, p ∈ led') := by
  intro mean mg mb dp un gd cn cs' a ccd cl outer A₀ base h₀ L m s Q E B F X N T hk hdp hu G ret
  have hx : (txt cs).length = cs.length := by simp [Str.length]
  have hx2 : (txt cs).length ≤ 20 := by omega
  walk_at "my enterC"
  rename Fr _ _ _ (bindL _ _ _) => F0
  rename_i g0 LA h0 tk0 FG0 B0 X0 T0 l0 ot ow dt0 dw0 N0
  have F1 : Fr g0 LA h0 (look []) := F0
  have dt : ot.data = .cell none := dt0
  have dw : ow.data = .cell (some (.str (txt cs) t)) := dw0
  clear F0 dt0 dw0
  refine (?_ : wpAny _ (Around.deeper _ (envX _ _ LA 215 (.ref 214) [(Str.ofString "t", LA + 1 + 1), (Str.ofString "word", LA + 1)])) (execs _ (envX _ _ LA 215 (.ref 214) [(Str.ofString "t", LA + 1 + 1), (Str.ofString "word", LA + 1)])) _ _ _)
  walk_at "my upto"
  refine wpAny_For ?_ (fun _ => rfl)
  walk_at "my upto"
  rename Fr _ _ _ _ => F2
  rename News _ _ _ _ => N2
  rename IsRange _ _ _ _ _ _ _ _ => hr2
  rename IntsAre _ _ => hi2
  refine for_rangeC (Ok := Stir s) (n := cs.length) (c := LA + 1 + 1) (oc := ot) (v₀ := none) (swI1 led cs LA ow)
    (by rw [hx]) (by omega) rfl rfl rfl rfl (fun _ _ _ => stir_go _ _) ⟨G, rfl⟩ F2 N2 hr2 (by k_mem) dt ⟨_, [_], _, List.mem_cons_self, ?_, ?_, rfl, by k_mem, fun p hp => ?_⟩ ?_ ?_ ?_
  · refine ⟨rfl, fun j a row h1 h2 => ?_⟩
    rcases j with _ | j
    · simp [sewTo] at h1 h2
      subst h1 h2
      refine ⟨_, _, List.mem_cons_of_mem _ List.mem_cons_self, ?_⟩
      have e : (List.replicate ((txt cs).length : Int).toNat [(-1 : Int)]).flatten = rowInts (List.replicate cs.length 0) := by
        rw [hx]
        simp [rowInts]
      rw [← e]
      exact hi2
    · simp [sewTo] at h2
  · rename (LA + 1 + 1 < _ ∧ LA + 1 < _ ∧ AllLt _ led) => lz1
    rename (_ < _ ∧ LA + 1 + 1 < _ ∧ LA + 1 < _ ∧ AllLt _ led) => lz2
    rename (_ < _ ∧ _ < _ ∧ LA + 1 + 1 < _ ∧ LA + 1 < _ ∧ AllLt _ led) => lz3
    intro b hb
    rcases List.mem_cons.mp hb with rfl | hb
    · exact Ne.symm (Nat.ne_of_lt lz3.2.2.1)
    · rw [List.mem_singleton.mp hb]
      exact Ne.symm (Nat.ne_of_lt lz2.2.1)
  · exact List.mem_cons_of_mem _ (List.mem_cons_of_mem _ (List.mem_cons_of_mem _ (List.mem_cons_of_mem _ (List.mem_cons_of_mem _ hp))))
  · rintro i m₁ led₁ led₂ hk ⟨ra, rs, n, h1, h2, h3, h4, h5, h6⟩
    refine ⟨ra, rs, n, hk _ h1 (h3 _ List.mem_cons_self) (.inr (show Value.type "list" ≠ Value.type "range_iterator" by decide)), h2.mono fun a ha its n hm => hk _ hm (h3 _ (List.mem_cons_of_mem _ ha)) (.inr (show Value.type "list" ≠ Value.type "range_iterator" by decide)), h3, h4, ?_, ?_⟩
    · exact hk _ h5 (Nat.ne_of_lt (Nat.lt_succ_self _)) (.inl (led_le N2 _ (by k_mem)))
    · exact fun p hp => hk p (h6 p hp) (Nat.ne_of_lt (Nat.lt_trans (l0 p hp) (Nat.lt_succ_of_lt (Nat.lt_succ_self _)))) (.inl (led_le N2 p (List.mem_cons_of_mem _ (List.mem_cons_of_mem _ (List.mem_cons_of_mem _ (List.mem_cons_of_mem _ (List.mem_cons_of_mem _ hp)))))))
  · intro i ti m₁ led₁ s₁ oc₁ HS
    have G1 := HS.1
    have os1 := HS.2
    clear HS
    intro hik hC1 hCd1 HX
    refine swI1_out HX fun ra rs n h1 h2 h3 h4 h5 h6 => ?_
    clear HX
    intro F3 N3
    (try clear F2)
    (try clear N2)
    (try clear hr2)
    walk_at "my upto2"
    k_dflt (refine LCt.Assign_ListComp_T (F₀ := by k_asm) (by rfl) (by with_unfolding_all rfl) (by with_unfolding_all rfl) (by decide) (by rfl) (by decide) (by rfl) (by rfl) (by rfl) ?_)
    walk_at "my upto2"
    rename IsRange _ _ _ _ _ _ _ _ => hr3
    have hi64 : ((i : Int) + 1) ≤ cs.length := by omega
    refine LCt.CompSrcT.range (n := cs.length - (i + 1)) (by rfl) (by k_asm) (by k_asm) hr3 (small_one (by omega) (by omega) (by omega) (by omega)) (by rw [rangeSize_nat]; congr 1; omega) (by rw [sizeLine_eq]; omega) ?_
    intro g9
    refine kci_range (fun l k => if subN (cs.getD i 0) (cs.getD k.toNat 0) = 1 then l ++ [k] else l) ?_ ?_ ?_
    · intro k tk9 I oI C oC D m₂ ys l hh9 tkk E' hlo hhi hI hC hxx F4 N4 off ne mk
      (try clear F3)
      (try clear N3)
      obtain ⟨j, rfl⟩ := Int.eq_ofNat_of_zero_le (show 0 ≤ k by omega)
      have hjl : j < cs.length := by omega
      have hca := item_txt hik
      have hcb := item_txt hjl
      walk_at "my upto2"
      rw [hca, hcb]
      k_dflt (refine' (sub_spec (w := _) (sg (cs.getD i 0)) (sg (cs.getD j 0)) _ _ (Nat.le_refl 1) (Nat.le_refl 1)).use ?B ?F ?X ?N ?T ?kK ?kd ?ku ?_)
      walk_at "use"
      intro v5 h5 tk5 n5 F5 N5 P5
      refine o_some (v := v5) P5 fun t5 K5 => ?_
      clear P5
      rw [subV_sg]
      replace N5 := News.sub N5 K5
      (try clear F4)
      (try clear N4)
      (try dsimp only)
      walk_at "my upto2"
      · rename ((subN (cs.getD i 0) (cs.getD j 0) : Nat) : Int) = 1 => hs1
        rename Fr _ _ _ _ => F6
        refine LCg.CompEnd.intro F6 N5 led₁ (fun p hp => hp) off trivial (kci_el ?_ rfl rfl)
        rw [Int.toNat_natCast, if_pos (by omega)]
      · rename ((subN (cs.getD i 0) (cs.getD j 0) : Nat) : Int) ≠ 1 => hs1
        rename Fr _ _ _ _ => F6
        refine LCg.CompEnd.intro F6 N5 led₁ (fun p hp => hp) off trivial (kci_no ?_ rfl)
        rw [Int.toNat_natCast, if_neg (by omega)]
    · intro ys hys hyl D h7 tk7 F7 N7 off7
      have hys2 : IntsAre ys ((othersN cs i).map fun (x : Nat) => (x : Int)) := by
        rw [← others_fold hik]
        exact hys
      clear hys
      (try clear F3)
      (try clear N3)
      (try dsimp only)
      walk_at "my upto2"
      refine wpAny_For ?_ (fun _ => rfl)
      walk_at "my upto2"
      rename Fr _ _ _ _ => F8
      rename News _ _ _ _ => N8
      rename (D < _ ∧ AllLt _ led₁) => lz8
      refine for_list (Ok := Stir s) (ax := ra) (its := (rs.map Value.ref).toArray) (k := n) (swI2 led₁ cs LA D i ys)
        rfl rfl rfl (fun _ _ _ => stir_go _ _) ⟨G1, os1⟩ F8 N8 (List.mem_cons_of_mem _ (List.mem_cons_of_mem _ h1)) ⟨_, [], _, List.mem_cons_self, ?_, ?_, ?_, rfl, rfl, by k_mem, fun p hp => List.mem_cons_of_mem _ (List.mem_cons_of_mem _ hp)⟩ ?_ ?_ ?_
      · exact ⟨rfl, fun j a row h1 h2 => by simp at h1⟩
      · exact ⟨Ne.symm (Nat.ne_of_lt (allLt_mem lz8.2 _ hC1)), Ne.symm (Nat.ne_of_lt lz8.1), fun p hp => Nat.ne_of_lt (allLt_mem lz8.2 p hp)⟩
      · exact fun a ha => nomatch ha
      · rintro j m₂ led₂ led₃ hk ⟨la, ls, n2, q1, q2, q3, q4, q5, q6, q7, q8⟩
        exact ⟨la, ls, n2, hk _ q1 (.inr (show Value.type "list" ≠ Value.type "list_iterator" by decide)), q2.mono fun b hb its n hm => hk _ hm (.inr (show Value.type "list" ≠ Value.type "list_iterator" by decide)), q3, q4, q5, q6, hk _ q7 (.inr (show Value.type "list" ≠ Value.type "list_iterator" by decide)), fun p hp => hk p (q8 p hp) (.inl (led_le N8 p (List.mem_cons_of_mem _ (List.mem_cons_of_mem _ hp))))⟩
      · intro j v m₂ led₂ s₂ HS
        have G2 := HS.1
        have os2 := HS.2
        clear HS
        intro hv hm2 HX
        refine swI2_out HX fun la ls n2 q1 q2 q3 q4 q5 q6 q7 q8 => ?_
        clear HX
        intro F9 N9
        (try clear F8)
        (try clear N8)
        obtain ⟨a9, ha9, rfl⟩ : ∃ a9, rs[j]? = some a9 ∧ v = .ref a9 := by
          simp at hv
          obtain ⟨b, e1, e2⟩ := hv
          exact ⟨b, e1, e2.symm⟩
        have hjr : j < (sewTo cs i).length := by rw [← h2.1]; exact (List.getElem?_eq_some_iff.mp ha9).1
        obtain ⟨row, hrow⟩ : ∃ row, (sewTo cs i)[j]? = some row := ⟨_, List.getElem?_eq_getElem hjr⟩
        obtain ⟨ia, na, ham, hai⟩ := h2.2 j a9 row ha9 hrow
        have ham2 := q8 _ ham
        have hC2 := q8 _ hC1
        have hrl : row.length = cs.length := sew_len _ (List.mem_of_getElem? hrow)
        have hial : ia.size = cs.length := by
          have := hai.length
          simp at this
          omega
        have htk := flat_take (f := sewRow cs i) hrow
        have hB1 : (((sewTo cs i).take (j + 1)).flatMap (sewRow cs i)).length ≤ 100000 := Nat.le_trans (flat_take_le _ _ _) (hB (i + 1) (by omega))
        have hz : (ls.map Value.ref).toArray.size < 1000000 := by
          rw [htk, List.length_append] at hB1
          have := q2.1
          simp
          omega
        walk_at "my upto2"
        · rename 0 ≤ ((row.getD i 0 : Nat) : Int) - 1 => hge
          rename Fr _ _ _ _ => F10
          rename News _ _ _ _ => N10
          have hsr : sewRow cs i row = [row] := by rw [sewRow, if_neg (by omega)]
          refine ⟨_, _, ⟨G2, os2⟩, F10, N10, fun p hp hc => upd_other hp (News.ne N9 hp q1 (by rw [hc]; show Value.type "list_iterator" ≠ Value.type "list"; decide)), fun p hp => ?_, la, ls ++ [a9], n2 + 1, ?_, ?_, q3, ?_, q5, q6, upd_other q7 (Ne.symm q3.2.1), fun p hp => upd_other (q8 p hp) (q3.2.2 p hp)⟩
          · rw [List.mem_singleton.mp hp]
            exact upd_other hm2 (q3.2.2 _ h1)
          · rw [push_ref]
            exact upd_self
          · rw [htk, hsr]
            exact (q2.mono fun b hb its n hm => upd_other hm (q4 b hb).2).snoc ⟨ia, na, upd_other ham2 (q3.2.2 _ ham), hai⟩
          · intro b hb
            rcases List.mem_append.mp hb with hb | hb
            · exact q4 b hb
            · rw [List.mem_singleton.mp hb]
              exact ⟨h3 _ (List.mem_cons_of_mem _ (List.mem_of_getElem? ha9)), q3.2.2 _ ham⟩
        · rename ¬ 0 ≤ ((row.getD i 0 : Nat) : Int) - 1 => hlt
          have hr0 : row.getD i 0 = 0 := by omega
          have hsr : sewRow cs i row = (othersN cs i).filterMap (sewOne i row) := by rw [sewRow, if_pos hr0]
          rw [hsr] at htk
          rename Fr _ _ _ _ => F10
          refine wpAny_For ?_ (fun _ => rfl)
          walk_at "my upto2"
          refine for_list (Ok := Stir s) (ax := D) (its := ys.toArray) (k := ys.length) (swI3 led₂ cs a9 LA D i la row j)
            rfl rfl rfl (fun _ _ _ => stir_go _ _) ⟨G2, os2⟩ F10 N9 q7 ⟨ls, n2, q1, ?_, q4, q5, q6, rfl, fun p hp _ => hp⟩ ?_ ?_ ?_
          · simpa using q2
          · rintro l m₃ led₃ led₄ hk ⟨ls, n3, p1, p2, p3, p4, p5, p6, p7⟩
            exact ⟨ls, n3, hk _ p1 (.inr (show Value.type "list" ≠ Value.type "list_iterator" by decide)), p2.mono fun b hb its n hm => hk _ hm (.inr (show Value.type "list" ≠ Value.type "list_iterator" by decide)), p3, p4, p5, p6, fun p hp hne => hk _ (p7 p hp hne) (.inl (led_le N9 p hp))⟩
          · intro l v m₃ led₃ s₃ HS
            have G3 := HS.1
            have os3 := HS.2
            clear HS
            intro hv3 hm3 HX
            refine swI3_out HX fun ls n3 p1 p2 p3 p4 p5 p6 p7 => ?_
            clear HX
            intro F11 N11
            (try clear F9)
            (try clear F10)
            have hne9 : ∀ p ∈ led₁, p ∈ led₃ := fun p hp => p7 p (q8 p hp) (q3.2.2 p hp)
            obtain ⟨x, tx, rfl, hx9⟩ := ints_at2 hys2 (j := l) (v := v) (by simpa using hv3)
            obtain ⟨s9, hs9, rfl⟩ : ∃ s9, (othersN cs i)[l]? = some s9 ∧ x = (s9 : Int) := by
              simp at hx9
              obtain ⟨b, e1, e2⟩ := hx9
              exact ⟨b, e1, e2.symm⟩
            obtain ⟨hs1, hs2⟩ := others_lt (List.mem_of_getElem? hs9)
            have ham3 := hne9 _ ham
            have hC3 := hne9 _ hC1
            have htk3 := fm_take (f := sewOne i row) hs9
            walk_at "my upto3"
            · rename ((row.getD s9 0 : Nat) : Int) - 1 < 0 => hlt9
              have hr9 : row.getD s9 0 = 0 := by omega
              have hso : sewOne i row s9 = some ((row.set i (s9 + 1)).set s9 (i + 1)) := by rw [sewOne, if_pos hr9]
              rename Fr _ _ _ _ => F12
              rename News _ _ _ _ => N12
              rename (∀ q ∈ led₃, q.1 < _) => lS
              have hneS : ∀ p ∈ led₃, p.1 ≠ _ := fun p hp => Nat.ne_of_lt (lS p hp)
              refine set_listOf F12 N12 List.mem_cons_self (by omega) (by omega) (by omega) fun ha Fa Na => ?_
              have hC4 := mem_upd_N Na (List.mem_cons_of_mem _ hC3) (hneS _ hC3)
              (try dsimp only)
              walk_at "my upto3"
              refine set_listOf Fa Na upd_self (by omega) (by rw [Array.size_setIfInBounds]; omega) (by omega) fun hb Fb Nb => ?_
              have hla4 := mem_upd_N Nb (mem_upd_N Na (List.mem_cons_of_mem _ p1) (hneS _ p1)) (hneS _ p1)
              (try dsimp only)
              walk_at "my upto3"
              refine lst_append2 Fb Nb hla4 ?_ fun hc Fc Nc => ?_
              · have h8 : (((sewTo cs i).take j).flatMap (sewRow cs i) ++ ((othersN cs i).take (l + 1)).filterMap (sewOne i row)).length ≤ 100000 := by
                  rw [htk, List.length_append] at hB1
                  have := fm_take_le (sewOne i row) (othersN cs i) (l + 1)
                  rw [List.length_append]
                  omega
                rw [htk3, hso] at h8
                have := p2.1
                simp at this h8 ⊢
                omega
              (try dsimp only)
              walk_at "my upto3"
              have Kall := keep3 Nc hneS
              refine ⟨_, _, ⟨G3, os3⟩, Fc, Nc, fun p hp hc => Kall p hp (News.ne N11 hp p1 (by rw [hc]; show Value.type "list_iterator" ≠ Value.type "list"; decide)), fun p hp => ?_, ls ++ [?S9], n3 + 1, ?_, ?_, ?_, p4, p5, p6, fun p hp hne => Kall p (p7 p hp hne) hne⟩
              · rw [List.mem_singleton.mp hp]
                exact Kall _ hm3 (Ne.symm q3.2.1)
              rotate_left
              · rw [← push_ref]
                exact upd_self
              · rw [htk3, hso, ← List.append_assoc]
                refine (p2.mono fun b hb its n hm => Kall _ hm (p3 b hb).2).snoc ⟨_, _, upd_other upd_self (Ne.symm (hneS _ p1)), ?_⟩
                rw [Array.toList_setIfInBounds, Array.toList_setIfInBounds]
                have e := ints_set ((s9 : Int).toNat) (i : Int) ti (ints_set ((i : Int).toNat) (s9 : Int) tx hai)
                rw [Int.toNat_natCast, Int.toNat_natCast] at e ⊢
                rw [rowInts, List.map_set, List.map_set]
                have e1 : (((s9 + 1 : Nat) : Int)) - 1 = s9 := by omega
                have e2 : (((i + 1 : Nat) : Int)) - 1 = i := by omega
                rw [e1, e2]
                exact e
              · intro b hb
                rcases List.mem_append.mp hb with hb | hb
                · exact p3 b hb
                · rw [List.mem_singleton.mp hb]
                  refine ⟨?_, Ne.symm (hneS _ p1)⟩
                  exact Ne.symm (hneS _ hC3)
            · rename ¬ ((row.getD s9 0 : Nat) : Int) - 1 < 0 => hge9
              have hso : sewOne i row s9 = none := by rw [sewOne, if_neg (by omega)]
              rename Fr _ _ _ _ => F12
              refine ⟨_, _, ⟨G3, os3⟩, F12, N11, fun p hp _ => hp, fun p hp => by rw [List.mem_singleton.mp hp]; exact hm3, ls, n3, p1, ?_, p3, p4, p5, p6, p7⟩
              rw [htk3, hso]
              simpa using p2
          · intro m₃ led₃ s₃ HS
            have G3 := HS.1
            have os3 := HS.2
            clear HS
            intro HX
            refine swI3_out HX fun ls n3 p1 p2 p3 p4 p5 p6 p7 => ?_
            clear HX
            intro F11 N11
            have e9 : (othersN cs i).take ys.toArray.size = othersN cs i := List.take_of_length_le (by have := hys2.length; simp at this; simp [this])
            rw [e9, ← htk] at p2
            (try dsimp only)
            walk_at "my upto2"
            exact ⟨_, _, ⟨G3, os3⟩, F11, N11, fun p hp hc => p7 p hp (News.ne N9 hp q1 (by rw [hc]; show Value.type "list_iterator" ≠ Value.type "list"; decide)), fun p hp => by rw [List.mem_singleton.mp hp]; exact p7 _ hm2 (q3.2.2 _ h1), la, ls, n3, p1, p2, q3, p3, p4, p5, p7 _ q7 (Ne.symm q3.2.1), fun p hp => p7 p (q8 p hp) (q3.2.2 p hp)⟩
      · intro m₂ led₂ s₂ HS
        have G2 := HS.1
        have os2 := HS.2
        clear HS
        intro HX
        refine swI2_out HX fun la ls n2 q1 q2 q3 q4 q5 q6 q7 q8 => ?_
        clear HX
        intro F9 N9
        (try clear F8)
        (try clear N8)
        have e9 : (sewTo cs i).take (rs.map Value.ref).toArray.size = sewTo cs i := List.take_of_length_le (by simp [h2.1])
        rw [e9] at q2
        (try dsimp only)
        walk_at "my upto2"
        rename Fr _ _ _ _ => F10
        rename News _ _ _ _ => N10
        exact ⟨_, _, oc₁, _, ⟨G2, os2⟩, F10, N10, fun p hp _ => q8 p hp, q8 _ hC1, hCd1, la, ls, n2, q1, q2, fun a ha => (List.mem_cons.mp ha).elim (fun e => e ▸ q3.1) fun h => (q4 a h).1, rfl, q8 _ h5, fun p hp => q8 p (h6 p hp)⟩
    · intro l k
      dsimp only
      split <;> simp
  · intro m₁ led₁ s₁ HS
    have G1 := HS.1
    have os1 := HS.2
    clear HS
    intro HX
    refine swI1_out HX fun ra rs n h1 h2 h3 h4 h5 h6 => ?_
    clear HX
    intro F3 N3
    (try clear F2)
    (try clear N2)
    (try clear hr2)
    (try dsimp only)
    walk_at "my upto2"
    rename Fr h₀ L _ _ => kF
    rename News h₀ L _ _ => kN
    exact ret _ _ _ kF kN G1 os1 ⟨ra, rs, n, rfl, h1, h2, h6⟩
end
section
set_option maxHeartbeats 1000000
/-- an iterator that tells the tokens too: before and behind the step -/
structure SrcT (prog : Program) (w : World) (A : Around) (I : Addr) (need : Led) (n : Nat) (P : Nat → Nat → Nat → Value → Prop) (It : Nat → Obj → Prop) : Prop where
  item : ∀ {h₀ : Heap} {L : Addr} {m : Str → Option Value} {s : Shared} {led : Led} {i : Nat} {o : Obj} {Q : Option Value → Shared → Prop} {E : Value → Shared → Prop}, i < n → Fr h₀ L s.heap m → News h₀ L s.heap led → (I, o) ∈ led → It i o → (∀ p ∈ need, p ∈ led) →
    (∀ v h' tk o', P i s.toks tk v → s.toks ≤ tk → It (i + 1) o' → Fr h₀ L h' m → News h₀ L h' (upd I o' led) → Q (some v) { s with heap := h', toks := tk }) → wpAny (model prog w) A (pyNext (.ref I)) Q E s
  done : ∀ {h₀ : Heap} {L : Addr} {m : Str → Option Value} {s : Shared} {led : Led} {o : Obj} {Q : Option Value → Shared → Prop} {E : Value → Shared → Prop}, Fr h₀ L s.heap m → News h₀ L s.heap led → (I, o) ∈ led → It n o → (∀ p ∈ need, p ∈ led) →
    (∀ h' tk, s.toks ≤ tk → Fr h₀ L h' m → News h₀ L h' (led.filter (fun p => p.1 != I)) → Q none { s with heap := h', toks := tk }) → wpAny (model prog w) A (pyNext (.ref I)) Q E s
theorem Src.toT {prog : Program} {w : World} {A : Around} {I : Addr} {need : Led} {n : Nat} {P : Nat → Value → Prop} {It : Nat → Obj → Prop} (S : Src prog w A I need n P It) : SrcT prog w A I need n (fun i _ _ v => P i v) It where
  item := fun hi F N hI hit hn hQ => wpAny_with_toks (Nat.le_refl _) (S.item hi F N hI hit hn fun v h' tk o' hP hit' F' N' hle => hQ v h' tk o' hP hle hit' F' N')
  done := fun F N hI hit hn hQ => wpAny_with_toks (Nat.le_refl _) (S.done F N hI hit hn fun h' tk F' N' hle => hQ h' tk hle F' N')
theorem SrcT.up {prog : Program} {w : World} {A : Around} {I : Addr} {need : Led} {n : Nat} {P : Nat → Value → Prop} {It : Nat → Obj → Prop} (S : Src prog w A I need n P It) : SrcT prog w A I need n (fun i a b v => P i v ∧ a ≤ b) It where
  item := fun hi F N hI hit hn hQ => wpAny_with_toks (Nat.le_refl _) (S.item hi F N hI hit hn fun v h' tk o' hP hit' F' N' hle => hQ v h' tk o' ⟨hP, hle⟩ hle hit' F' N')
  done := fun F N hI hit hn hQ => wpAny_with_toks (Nat.le_refl _) (S.done F N hI hit hn fun h' tk F' N' hle => hQ h' tk hle F' N')
theorem srcStrT {prog : Program} {w : World} {A : Around} (hh : A.handled = none) {I : Addr} (x : Str) (t : Tok) :
    SrcT prog w A I [] x.cps.size (fun i a b v => ∃ c, x.cps[i]? = some c ∧ v = .str ⟨#[c]⟩ a ∧ b = a + 1) (isStrIt x t) where
  item := fun {h₀ L m s led i o Q E} hi F N hI hit hn hQ => by
    have st : s.heap.IsStrIter I "str_ascii_iterator" x t i := ⟨o, (N _ hI).1, hit⟩
    refine wpAny_pyNext_ascii_item st (c := x.cps[i]) (by simp [hi]) fun h' hit' hs' => ?_
    obtain ⟨o', e', r'⟩ := hit'
    have hk' : ∀ b y, b ≠ I → s.heap.get? b = some y → h'.get? b = some y := fun b y hb e => hs'.extBut b y hb e
    exact hQ _ h' (s.toks + 1) o' ⟨_, by simp [hi], rfl, rfl⟩ (Nat.le_succ _) r' (fr_change F N hI hk') (news_change N hI hk' e')
  done := fun F N hI hit hn hQ => (srcStr hh x t).toT.done F N hI hit hn hQ
section
variable {prog : Program} {w : World} {A : Around} {s : Shared} {env : Env} {h₀ : Heap}
theorem forLoop_srcT {R : Result → Shared → Prop} {x : Str} {px : Pos} {body : List Stmt} {Ok : Shared → Prop} {I : Addr} {need : Led} {n : Nat} {P : Nat → Nat → Nat → Value → Prop} {It : Nat → Obj → Prop} {m : Str → Option Value} {led : Led} {o : Obj} (J : Nat → (Str → Option Value) → Led → Prop)
    (S : SrcT prog w A I need n P It) (hx : env.kindOf x = some .local) (hp : (env.scope.kind == .class || (env.scope.kind == .module && env.locals != env.globals)) = false)
    (hgo : ∀ s₁ h tk, Ok s₁ → Ok { s₁ with heap := h, toks := tk }) (hs : Ok s) (F : Fr h₀ env.locals s.heap m) (N : News h₀ env.locals s.heap led) (hI : (I, o) ∈ led) (h0 : It 0 o) (hn : ∀ p ∈ need, p ∈ led) (hJ : J 0 m led)
    (hne : ∀ p ∈ need, p.1 ≠ I)
    (stable : ∀ i m₁ led₁ led₂ o₁ h, News h₀ env.locals h led₁ → (I, o₁) ∈ led₁ → It i o₁ → Keeps1 I led₁ led₂ → J i m₁ led₁ → J i m₁ led₂)
    (step : ∀ i v a b m₁ led₁ s₁ o₁, Ok s₁ → i < n → P i a b v → s.toks ≤ a → b < s₁.toks → (I, o₁) ∈ led₁ → It (i + 1) o₁ → (∀ p ∈ need, p ∈ led₁) → J i m₁ led₁ → Fr h₀ env.locals s₁.heap (fun y => if y = x then some v else m₁ y) → News h₀ env.locals s₁.heap led₁ →
      wpAny (model prog w) A (execs body env) (FStep Ok h₀ env.locals I need (It (i + 1)) (J (i + 1)) R) No s₁)
    (done : ∀ m₁ led₁ s₁, Ok s₁ → s.toks ≤ s₁.toks → (∀ p ∈ need, p ∈ led₁) → J n m₁ led₁ → Fr h₀ env.locals s₁.heap m₁ → News h₀ env.locals s₁.heap led₁ → R (.ok .next) s₁) :
    codeAny (model prog w) A (.forLoop (.Name x px) (.ref I) body [] env) R s := by
  refine codeAny_forLoop (fun k s' => ∃ m' led' o' i, Ok s' ∧ s.toks ≤ s'.toks ∧ Fr h₀ env.locals s'.heap m' ∧ News h₀ env.locals s'.heap led' ∧ (I, o') ∈ led' ∧ It i o' ∧ (∀ p ∈ need, p ∈ led') ∧ J i m' led' ∧ i ≤ n ∧ k = n + 1 - i) ?_ (n + 1)
    ⟨m, led, o, 0, hs, Nat.le_refl _, F, N, hI, h0, hn, hJ, Nat.zero_le _, rfl⟩
  rintro k s' ⟨m', led', o', i, hs', hT', F', N', hI', hit', hn', hJ', hi, rfl⟩
  by_cases hlt : i < n
  · refine S.item hlt F' N' hI' hit' hn' fun v h₁ tk₁ o₁ hP hle₁ hit₁ F₁ N₁ => ?_
    refine wpAny_assign_Name (wpAny_storeName_local hx F₁.ns (fun h₂ hn₂ hs₂ => ?_) hp)
    have F₂ := F₁.set hn₂ hs₂
    have N₂ := N₁.set hs₂
    have J₂ := stable i m' led' (upd I o₁ led') o' _ N' hI' hit' keeps_upd hJ'
    refine wpAny_with_toks (Nat.le_refl _) (wpAny_mono (step i v _ _ m' _ { s' with heap := h₂, toks := tk₁ + 1 } o₁ (hgo _ _ _ hs') hlt hP hT' (Nat.lt_succ_self _) upd_self hit₁ (fun p hp => upd_other (hn' p hp) (hne p hp)) J₂ F₂ N₂) (fun f s₃ h₃ hle => ?_) fun _ _ (e : False) => e.elim)
    have hT₃ : s.toks ≤ s₃.toks := Nat.le_trans hT' (Nat.le_trans hle₁ (Nat.le_trans (Nat.le_succ _) hle))
    cases f with
    | ret v => exact h₃
    | brk => exact h₃
    | next =>
      obtain ⟨m₂, led₂, o₂, a1, a2, a3, a4, a5, a6, a7⟩ := h₃
      exact ⟨n + 1 - (i + 1), by omega, m₂, led₂, o₂, i + 1, a1, hT₃, a2, a3, a4, a5, a6, a7, hlt, rfl⟩
    | cont =>
      obtain ⟨m₂, led₂, o₂, a1, a2, a3, a4, a5, a6, a7⟩ := h₃
      exact ⟨n + 1 - (i + 1), by omega, m₂, led₂, o₂, i + 1, a1, hT₃, a2, a3, a4, a5, a6, a7, hlt, rfl⟩
  · have hin : i = n := by omega
    subst hin
    refine S.done F' N' hI' hit' hn' fun h₁ tk₁ hle₁ F₁ N₁ => wpAny_execs_nil ?_
    have hk : Keeps1 I led' (led'.filter (fun p => p.1 != I)) := fun p hp hne => List.mem_filter.mpr ⟨hp, by simpa using hne⟩
    exact done m' _ _ (hgo _ _ _ hs') (Nat.le_trans hT' hle₁) (fun p hp => hk p (hn' p hp) (hne p hp)) (stable i m' led' _ o' _ N' hI' hit' hk hJ') F₁ N₁
end
section
variable {prog : Program} {w : World} {A : Around} {E : Value → Shared → Prop} {s : Shared} {env : Env} {h₀ : Heap} {m : Str → Option Value} {led : Led}
theorem for_goT {R : Result → Shared → Prop} {x : Str} {px : Pos} {body : List Stmt} {Ok : Shared → Prop} {need : Led} {n : Nat} {P : Nat → Nat → Nat → Value → Prop} {It : Nat → Obj → Prop} {o : Obj} {ic : Value} (J : Nat → (Str → Option Value) → Led → Prop)
    (S : SrcT prog w A s.heap.objs.size need n P It) (hIt : ∀ i o, It i o → o.cls = ic) (hx : env.kindOf x = some .local) (hp : (env.scope.kind == .class || (env.scope.kind == .module && env.locals != env.globals)) = false)
    (hgo : ∀ s₁ h tk, Ok s₁ → Ok { s₁ with heap := h, toks := tk }) (hs : Ok s) (F : Fr h₀ env.locals s.heap m) (N : News h₀ env.locals s.heap led) (h0 : It 0 o) (hfree : o.isFreed = false) (hn : ∀ p ∈ need, p ∈ led) (hJ : J 0 m led)
    (stable : ∀ i m₁ led₁ led₂, (∀ p ∈ led₁, (p.1 < s.heap.objs.size ∨ p.2.cls ≠ ic) → p ∈ led₂) → J i m₁ led₁ → J i m₁ led₂)
    (step : ∀ i v a b m₁ led₁ s₁, Ok s₁ → i < n → P i a b v → s.toks ≤ a → b < s₁.toks → (∀ p ∈ need, p ∈ led₁) → J i m₁ led₁ → Fr h₀ env.locals s₁.heap (fun y => if y = x then some v else m₁ y) → News h₀ env.locals s₁.heap led₁ →
      wpAny (model prog w) A (execs body env) (GStep Ok h₀ env.locals ic need led₁ (J (i + 1))) No s₁)
    (done : ∀ m₁ led₁ s₁, Ok s₁ → s.toks ≤ s₁.toks → J n m₁ led₁ → Fr h₀ env.locals s₁.heap m₁ → News h₀ env.locals s₁.heap led₁ → R (.ok .next) s₁) :
    codeAny (model prog w) A (.forLoop (.Name x px) (.ref s.heap.objs.size) body [] env) R { s with heap := s.heap.push o } := by
  have hne : ∀ p ∈ need, p.1 ≠ s.heap.objs.size := fun p hp => Nat.ne_of_lt (led_le N p (hn p hp))
  refine forLoop_srcT (s := { s with heap := s.heap.push o }) (led := (s.heap.objs.size, o) :: led) (Ok := Ok) (fun i m₁ led₁ => J i m₁ led₁) S hx hp hgo (hgo s _ s.toks hs) (F.push _) (fun p hp => ?_) List.mem_cons_self h0 (fun p hp => List.mem_cons_of_mem _ (hn p hp)) (stable 0 m led _ (fun p hp _ => List.mem_cons_of_mem _ hp) hJ) hne ?_ ?_ ?_
  · rcases List.mem_cons.mp hp with rfl | hp
    · exact fresh_led F (Nat.le_refl _) (Heap.get?_push_size _ hfree)
    · exact ⟨Heap.get?_push_of_some _ (N p hp).1, (N p hp).2⟩
  · intro i m₁ led₁ led₂ o₁ h N₁ hI hit hk hJ₁
    refine stable i m₁ led₁ led₂ (fun p hp hc => hk p hp fun z => ?_) hJ₁
    rcases hc with hc | hc
    · rw [z] at hc
      exact Nat.lt_irrefl _ hc
    · have e1 := (N₁ p hp).1
      have e2 := (N₁ _ hI).1
      rw [z] at e1
      rw [show h.get? s.heap.objs.size = some o₁ from e2] at e1
      exact hc (by rw [← Option.some.inj e1]; exact hIt i o₁ hit)
  · intro i v a b m₁ led₁ s₁ o₁ hs₁ hi hP ha hb hI hit hn₁ hJ₁ F₁ N₁
    refine wpAny_mono (step i v a b m₁ led₁ s₁ hs₁ hi hP ha hb hn₁ hJ₁ F₁ N₁) (fun f s₂ h₂ => ?_) fun _ _ e => e
    cases f with
    | ret v => exact h₂.elim
    | brk => exact h₂.elim
    | next =>
      obtain ⟨m₂, led₂, a1, a2, a3, a4, a5, a6⟩ := h₂
      exact ⟨m₂, led₂, o₁, a1, a2, a3, a4 _ hI (hIt _ _ hit), hit, a5, a6⟩
    | cont =>
      obtain ⟨m₂, led₂, a1, a2, a3, a4, a5, a6⟩ := h₂
      exact ⟨m₂, led₂, o₁, a1, a2, a3, a4 _ hI (hIt _ _ hit), hit, a5, a6⟩
  · exact fun m₁ led₁ s₁ hs₁ hT₁ _ hJ₁ F₁ N₁ => done m₁ led₁ s₁ hs₁ hT₁ hJ₁ F₁ N₁
theorem for_strT {R : Result → Shared → Prop} {x : Str} {px : Pos} {body : List Stmt} {Ok : Shared → Prop} {cs : List Nat} {t : Tok} (J : Nat → (Str → Option Value) → Led → Prop) (hL : (txt cs).cps.all (· < 128) = true)
    (hh : A.handled = none) (hx : env.kindOf x = some .local) (hp : (env.scope.kind == .class || (env.scope.kind == .module && env.locals != env.globals)) = false)
    (hgo : ∀ s₁ h tk, Ok s₁ → Ok { s₁ with heap := h, toks := tk }) (hs : Ok s) (F : Fr h₀ env.locals s.heap m) (N : News h₀ env.locals s.heap led) (hJ : J 0 m led)
    (stable : ∀ i m₁ led₁ led₂, (∀ p ∈ led₁, (p.1 < s.heap.objs.size ∨ p.2.cls ≠ .type "str_ascii_iterator") → p ∈ led₂) → J i m₁ led₁ → J i m₁ led₂)
    (step : ∀ i c u m₁ led₁ s₁, Ok s₁ → cs[i]? = some c → s.toks ≤ u → u + 1 < s₁.toks → J i m₁ led₁ → Fr h₀ env.locals s₁.heap (fun y => if y = x then some (.str (sg c) u) else m₁ y) → News h₀ env.locals s₁.heap led₁ →
      wpAny (model prog w) A (execs body env) (GStep Ok h₀ env.locals (.type "str_ascii_iterator") [] led₁ (J (i + 1))) No s₁)
    (done : ∀ m₁ led₁ s₁, Ok s₁ → s.toks ≤ s₁.toks → J cs.length m₁ led₁ → Fr h₀ env.locals s₁.heap m₁ → News h₀ env.locals s₁.heap led₁ → R (.ok .next) s₁) :
    wpAny (model prog w) A (pyIter (.str (txt cs) t)) (fun it s₂ => codeAny (model prog w) A (.forLoop (.Name x px) it body [] env) R s₂) E s := by
  refine wpAny_pyIter_ascii hL ?_
  have hsz : (txt cs).cps.size = cs.length := by simp [txt]
  refine for_goT (ic := .type "str_ascii_iterator") J (srcStrT hh (txt cs) t) (fun i o h => h.1) hx hp hgo hs F N ⟨rfl, rfl⟩ rfl (fun p hp => nomatch hp) hJ stable (fun i v a b m₁ led₁ s₁ hs₁ hi hP ha hb hn hJ₁ F₁ N₁ => ?_) (fun m₁ led₁ s₁ a c b => done m₁ led₁ s₁ a c (hsz ▸ b))
  obtain ⟨c, hc, rfl, rfl⟩ := hP
  exact step i c a m₁ led₁ s₁ hs₁ (by simpa [txt] using hc) ha hb hJ₁ F₁ N₁
theorem for_tupleT {R : Result → Shared → Prop} {x : Str} {px : Pos} {body : List Stmt} {Ok : Shared → Prop} {ax : Addr} {vs : List Value} {k : Nat} (J : Nat → (Str → Option Value) → Led → Prop)
    (hh : A.handled = none) (hx : env.kindOf x = some .local) (hp : (env.scope.kind == .class || (env.scope.kind == .module && env.locals != env.globals)) = false)
    (hgo : ∀ s₁ h tk, Ok s₁ → Ok { s₁ with heap := h, toks := tk }) (hs : Ok s) (F : Fr h₀ env.locals s.heap m) (N : News h₀ env.locals s.heap led) (hm : (ax, tupO vs k) ∈ led) (hJ : J 0 m led)
    (stable : ∀ i m₁ led₁ led₂, (∀ p ∈ led₁, (p.1 < s.heap.objs.size ∨ p.2.cls ≠ .type "tuple_iterator") → p ∈ led₂) → J i m₁ led₁ → J i m₁ led₂)
    (step : ∀ i v m₁ led₁ s₁, Ok s₁ → vs[i]? = some v → s.toks < s₁.toks → (ax, tupO vs k) ∈ led₁ → J i m₁ led₁ → Fr h₀ env.locals s₁.heap (fun y => if y = x then some v else m₁ y) → News h₀ env.locals s₁.heap led₁ →
      wpAny (model prog w) A (execs body env) (GStep Ok h₀ env.locals (.type "tuple_iterator") [(ax, tupO vs k)] led₁ (J (i + 1))) No s₁)
    (done : ∀ m₁ led₁ s₁, Ok s₁ → s.toks ≤ s₁.toks → J vs.length m₁ led₁ → Fr h₀ env.locals s₁.heap m₁ → News h₀ env.locals s₁.heap led₁ → R (.ok .next) s₁) :
    wpAny (model prog w) A (pyIter (.ref ax)) (fun it s₂ => codeAny (model prog w) A (.forLoop (.Name x px) it body [] env) R s₂) E s := by
  refine wpAny_pyIter_tuple ⟨_, (N _ hm).1, rfl, _, rfl⟩ ?_
  have hsz : vs.toArray.size = vs.length := by simp
  exact for_goT (ic := .type "tuple_iterator") J (SrcT.up (srcTup hh (Nat.ne_of_lt (led_le N _ hm)) vs k)) (fun i o h => h.1) hx hp hgo hs F N ⟨rfl, rfl⟩ rfl (fun p hp => by rw [List.mem_singleton.mp hp]; exact hm) hJ stable
    (fun i v a b m₁ led₁ s₁ hs₁ hi hP ha hb hn hJ₁ F₁ N₁ => step i v m₁ led₁ s₁ hs₁ (by simpa using hP.1) (Nat.lt_of_le_of_lt (Nat.le_trans ha hP.2) hb) (hn _ (List.mem_singleton.mpr rfl)) hJ₁ F₁ N₁) (fun m₁ led₁ s₁ a c b => done m₁ led₁ s₁ a c (hsz ▸ b))
theorem for_rangeT {R : Result → Shared → Prop} {x : Str} {px : Pos} {body : List Stmt} {Ok : Shared → Prop} {ar : Addr} {b : Int} {t u v : Tok} {n : Nat} (J : Nat → (Str → Option Value) → Led → Prop)
    (hb : b = (n : Int)) (hn : n ≤ 1000)
    (hh : A.handled = none) (hx : env.kindOf x = some .local) (hp : (env.scope.kind == .class || (env.scope.kind == .module && env.locals != env.globals)) = false)
    (hgo : ∀ s₁ h tk, Ok s₁ → Ok { s₁ with heap := h, toks := tk }) (hs : Ok s) (F : Fr h₀ env.locals s.heap m) (N : News h₀ env.locals s.heap led) (hr : IsRange s.heap ar 0 b 1 t u v) (hJ : J 0 m led)
    (stable : ∀ i m₁ led₁ led₂, (∀ p ∈ led₁, (p.1 < s.heap.objs.size ∨ p.2.cls ≠ .type "range_iterator") → p ∈ led₂) → J i m₁ led₁ → J i m₁ led₂)
    (step : ∀ i t m₁ led₁ s₁, Ok s₁ → i < n → s.toks < s₁.toks → J i m₁ led₁ → Fr h₀ env.locals s₁.heap (fun y => if y = x then some (.int (i : Nat) t) else m₁ y) → News h₀ env.locals s₁.heap led₁ →
      wpAny (model prog w) A (execs body env) (GStep Ok h₀ env.locals (.type "range_iterator") [] led₁ (J (i + 1))) No s₁)
    (done : ∀ m₁ led₁ s₁, Ok s₁ → s.toks ≤ s₁.toks → J n m₁ led₁ → Fr h₀ env.locals s₁.heap m₁ → News h₀ env.locals s₁.heap led₁ → R (.ok .next) s₁) :
    wpAny (model prog w) A (pyIter (.ref ar)) (fun it s₂ => codeAny (model prog w) A (.forLoop (.Name x px) it body [] env) R s₂) E s := by
  subst hb
  refine wpAny_pyIter_range hr (small_one (by omega) (by omega) (by omega) (by omega)) ?_
  rw [rangeSize_nat]
  refine for_goT (ic := .type "range_iterator") J (SrcT.up (srcRange hh n)) (fun i o h => by rw [h]) hx hp hgo hs F N (by simp [isRangeIt]) rfl (fun p hp => nomatch hp) hJ stable (fun i v a b m₁ led₁ s₁ hs₁ hi hP ha hb hn hJ₁ F₁ N₁ => ?_) done
  obtain ⟨⟨_, t, rfl⟩, hab⟩ := hP
  exact step i t m₁ led₁ s₁ hs₁ hi (Nat.lt_of_le_of_lt (Nat.le_trans ha hab) hb) hJ₁ (by simpa using F₁) N₁
end
end
section
set_option maxHeartbeats 1000000
open PySem.Builtin PySem.Builtin.Str in
theorem replace_parts (x y z : Str) (hw : 1 ≤ y.length) : ∃ cuts f, StrLaws.ChainG x y x.length 0 cuts f ∧ (∀ k, f ≤ k → ¬ StrLaws.At x y x.length k) ∧ Txt.replace x y z = Str.join z (StrLaws.partsFrom x y.length 0 cuts) := by
  obtain ⟨f, h1, h2⟩ := StrLaws.occ_tight x y hw
  refine ⟨_, f, h1, h2, ?_⟩
  unfold Txt.replace
  by_cases hc : ((occurrences x y 0 x.length (x.length + 1)).isEmpty || (y.length == 0 && z.length == 0)) = true
  · rw [if_pos hc]
    have he : occurrences x y 0 x.length (x.length + 1) = [] := by
      have hy : (y.length == 0) = false := by simp; omega
      rw [hy] at hc
      simpa using hc
    rw [he]
    exact (StrLaws.sub_whole x).symm
  · rw [if_neg hc, StrLaws.partsBetween_eq, StrLaws.glued_eq_join]
theorem at_two (l : List Nat) (p q k : Nat) : StrLaws.At (txt l) (txt [p, q]) (txt l).length k ↔ l[k]? = some p ∧ l[k + 1]? = some q := by
  unfold StrLaws.At
  rw [StrLaws.subAt_eq]
  have hx : (txt l).length = l.length := by simp [Str.length]
  have hy : (txt [p, q]).length = 2 := rfl
  rw [hx, hy]
  simp only [beq_iff_eq]
  show k + 2 ≤ l.length ∧ (l.drop k).take 2 = [p, q] ↔ _
  constructor
  · rintro ⟨h1, h2⟩
    have e0 := congrArg (fun a => a[0]?) h2
    have e1 := congrArg (fun a => a[1]?) h2
    simp at e0 e1
    exact ⟨e0, e1⟩
  · rintro ⟨h1, h2⟩
    have h3 := (List.getElem?_eq_some_iff.mp h2).1
    refine ⟨by omega, ?_⟩
    rw [List.drop_eq_getElem_cons (by omega), List.drop_eq_getElem_cons (by omega)]
    have a1 := (List.getElem?_eq_some_iff.mp h1).2
    have a2 := (List.getElem?_eq_some_iff.mp h2).2
    simp [a1, a2]
/-- all pairs p q are struck out, from the left -/
noncomputable def strike (p q : Nat) : List Nat → List Nat
  | [] => []
  | [x] => [x]
  | x :: y :: r => if x = p ∧ y = q then strike p q r else x :: strike p q (y :: r)
theorem strike_free (p q : Nat) : ∀ l : List Nat, (∀ k, ¬ (l[k]? = some p ∧ l[k + 1]? = some q)) → strike p q l = l
  | [], _ => rfl
  | [_], _ => rfl
  | x :: y :: r, h => by
    unfold strike
    rw [if_neg fun e => h 0 (by simp [e.1, e.2]), strike_free p q (y :: r) fun k => by have := h (k + 1); simpa using this]
theorem strike_at (p q : Nat) : ∀ (m : Nat) (l : List Nat), (∀ k, k < m → ¬ (l[k]? = some p ∧ l[k + 1]? = some q)) → l[m]? = some p → l[m + 1]? = some q → strike p q l = l.take m ++ strike p q (l.drop (m + 2))
  | 0, l, _, h1, h2 => by
    match l, h1, h2 with
    | x :: y :: r, h1, h2 =>
      simp at h1 h2
      rw [strike, if_pos ⟨h1, h2⟩]
      rfl
  | m + 1, l, hn, h1, h2 => by
    match l, hn, h1, h2 with
    | [x], hn, h1, h2 => simp at h1
    | x :: y :: r, hn, h1, h2 =>
      have h0 : ¬ (x = p ∧ y = q) := fun e => hn 0 (Nat.succ_pos _) (by simp [e.1, e.2])
      rw [strike, if_neg h0]
      rw [strike_at p q m (y :: r) (fun k hk => by have := hn (k + 1) (by omega); simpa using this) (by simpa using h1) (by simpa using h2)]
      rfl
theorem join_nil_cons (a : Str) : ∀ parts : List Str, (Str.join ⟨#[]⟩ (a :: parts)).cps.toList = a.cps.toList ++ (Str.join ⟨#[]⟩ parts).cps.toList
  | [] => by show a.cps.toList = a.cps.toList ++ ([] : List Nat); simp
  | b :: r => by
    show (a ++ ⟨#[]⟩ ++ Str.join ⟨#[]⟩ (b :: r)).cps.toList = _
    simp only [Str.cps_append, Array.toList_append]
    simp
theorem strike_chain (p q : Nat) (l : List Nat) : ∀ (cuts : List Nat) (a f : Nat), StrLaws.ChainG (txt l) (txt [p, q]) (txt l).length a cuts f → (∀ k, f ≤ k → ¬ StrLaws.At (txt l) (txt [p, q]) (txt l).length k) →
    (Str.join ⟨#[]⟩ (StrLaws.partsFrom (txt l) (txt [p, q]).length a cuts)).cps.toList = strike p q (l.drop a)
  | [], a, f, h, hn => by
    have e : f = a := h
    subst e
    have hx : (txt l).length = l.length := by simp [Str.length]
    rw [strike_free]
    · show (PySem.Builtin.Str.strSub (txt l) f (txt l).length).cps.toList = _
      rw [StrLaws.strSub_toList, hx]
      exact List.take_of_length_le (by simp)
    · intro k hk
      rw [List.getElem?_drop, List.getElem?_drop] at hk
      exact hn (f + k) (Nat.le_add_right _ _) ((at_two l p q (f + k)).mpr hk)
  | c :: r, a, f, h, hn => by
    obtain ⟨hac, hAt, hfree, hch⟩ := h
    have ih := strike_chain p q l r _ f hch hn
    have hA := (at_two l p q c).mp hAt
    rw [strike_at p q (c - a) (l.drop a)]
    · show (Str.join ⟨#[]⟩ (PySem.Builtin.Str.strSub (txt l) a c :: StrLaws.partsFrom (txt l) (txt [p, q]).length (c + (txt [p, q]).length) r)).cps.toList = _
      rw [join_nil_cons, ih, StrLaws.strSub_toList, List.drop_drop]
      have e : a + (c - a + 2) = c + (txt [p, q]).length := by show _ = c + 2; omega
      rw [e]
    · intro k hk hk2
      rw [List.getElem?_drop, List.getElem?_drop] at hk2
      exact hfree (a + k) (Nat.le_add_right _ _) (by omega) ((at_two l p q (a + k)).mpr hk2)
    · rw [List.getElem?_drop, show a + (c - a) = c by omega]
      exact hA.1
    · rw [List.getElem?_drop, show a + (c - a + 1) = c + 1 by omega]
      exact hA.2
theorem txt_toList (l : List Nat) : (txt l).cps.toList = l := rfl
theorem txt_of {x : Str} {l : List Nat} (h : x.cps.toList = l) : x = txt l := by
  subst h
  rfl
theorem replace_strike (p q : Nat) (l : List Nat) : Txt.replace (txt l) (txt [p, q]) (Str.ofString "") = txt (strike p q l) := by
  rw [show Str.ofString "" = ⟨#[]⟩ from by kernel_rfl]
  obtain ⟨cuts, f, h1, h2, e⟩ := replace_parts (txt l) (txt [p, q]) ⟨#[]⟩ (by show 1 ≤ 2; omega)
  rw [e]
  exact txt_of (strike_chain p q l cuts 0 f h1 h2)
noncomputable def swap1 (c d x : Nat) : Nat := if x = c then d else x
theorem swap_free (c d : Nat) : ∀ l : List Nat, c ∉ l → l.map (swap1 c d) = l
  | [], _ => rfl
  | x :: r, h => by
    have h1 : ¬ x = c := fun e => h (e ▸ List.mem_cons_self)
    rw [List.map_cons, swap_free c d r fun m => h (List.mem_cons_of_mem _ m), swap1, if_neg h1]
theorem swap_join (c d : Nat) : ∀ parts : List Str, (∀ p ∈ parts, c ∉ p.cps.toList) → (Str.join ⟨#[c]⟩ parts).cps.toList.map (swap1 c d) = (Str.join ⟨#[d]⟩ parts).cps.toList
  | [], _ => rfl
  | [p], h => swap_free c d _ (h p (List.mem_singleton.mpr rfl))
  | p :: q :: r, h => by
    have ih := swap_join c d (q :: r) fun a ha => h a (List.mem_cons_of_mem _ ha)
    show (p ++ ⟨#[c]⟩ ++ Str.join ⟨#[c]⟩ (q :: r)).cps.toList.map (swap1 c d) = (p ++ ⟨#[d]⟩ ++ Str.join ⟨#[d]⟩ (q :: r)).cps.toList
    simp only [Str.cps_append, Array.toList_append, List.map_append]
    rw [ih, swap_free c d _ (h p List.mem_cons_self)]
    simp [swap1]
theorem replace_swap (c d : Nat) (l : List Nat) : Txt.replace (txt l) (sg c) (sg d) = txt (l.map (swap1 c d)) := by
  refine txt_of ?_
  show (Txt.replace (txt l) ⟨#[c]⟩ ⟨#[d]⟩).cps.toList = _
  rw [StrLaws.replace_one, ← swap_join c d _ (StrLaws.split_free (txt l) c), StrLaws.join_split]
end
theorem off_G6 : True := by
  w_top off
  trivial
section
set_option maxHeartbeats 1000000
theorem my_replace {prog : Program} {w : World} {A : Around} {E : Value → Shared → Prop} {s : Shared} {x y z : Str} {t u v : Nat} {Q : Value → Shared → Prop} (hu : 0 < u) (huv : u < v) (hyz : (y == z) = false) (hx : x.length ≤ 1000) (hz : z.length ≤ 14)
    (hq : ∀ t' k, s.toks ≤ k → Q (.str (Txt.replace x y z) t') { s with toks := k }) : wpAny (model prog w) A (call (.builtin "str.replace") [.str x t, .str y u, .str z v]) Q E s :=
  wpAny_with_toks (Nat.le_refl _) (SC.replaceW (Nat.ne_of_gt hu) (Nat.ne_of_gt (Nat.lt_trans hu huv)) (Nat.ne_of_lt huv) hyz (by omega) hz fun t' k hle => hq t' k hle)
/-- a contract of a def that gives back a text: the token is new -/
noncomputable def SpecK (w : World) (f : Addr) (d u : Nat) (vs : List Value) (news : Led) (x : Str) : Prop :=
  ∀ (mean : ExcName → Option Value) (mg mb : Str → Option Value) (dp un : Nat) (gd : Option (List Code)) (cn : Str) (cs : Scope) (a : Addr) (ccd : Value) (cl : List (Str × Addr)) (outer : List Env) (A₀ : Around) (base h₀ : Heap) (L : Addr) (m : Str → Option Value) (s : Shared) (Q E : Value → Shared → Prop),
    Below A₀ base outer h₀ → Fr h₀ L s.heap m → (hd.heap_1 w.params).In h₀ → News h₀ L s.heap news → TT mean mg mb h₀ → cs.kind = .function → dp + d < recursionLimit → un + u < cLine →
    (∀ (t : Nat) (h' : Heap) (tk' : Nat) (news' : Led), s.toks ≤ t → t < tk' → Fr h₀ L h' m → News h₀ L h' news' → (∀ p ∈ news, p ∈ news') → Q (.str x t) { s with heap := h', toks := tk' }) → wpAny (model PR w) (ktrTop dp un gd cn cs L a ccd cl outer) (call (.ref f) vs) Q E s
theorem SpecK.use {w : World} {f : Addr} {d u : Nat} {vs : List Value} {news : Led} {x : Str} {mean : ExcName → Option Value} {mg mb : Str → Option Value} {dp un : Nat} {gd : Option (List Code)} {cn : Str} {cs : Scope} {a : Addr} {ccd : Value} {cl : List (Str × Addr)} {outer : List Env} {A₀ : Around} {base h₀ : Heap} {L : Addr} {m : Str → Option Value} {s : Shared} {Q E : Value → Shared → Prop}
    (S : SpecK w f d u vs news x) (B : Below A₀ base outer h₀) (F : Fr h₀ L s.heap m) (X : (hd.heap_1 w.params).In h₀) (N : News h₀ L s.heap news) (T : TT mean mg mb h₀) (hk : cs.kind = .function) (hdp : dp + d < recursionLimit) (hu : un + u < cLine)
    (ret : ∀ (t : Nat) (h' : Heap) (tk' : Nat) (news' : Led), s.toks ≤ t → t < tk' → Fr h₀ L h' m → News h₀ L h' news' → (∀ p ∈ news, p ∈ news') → Q (.str x t) { s with heap := h', toks := tk' }) : wpAny (model PR w) (ktrTop dp un gd cn cs L a ccd cl outer) (call (.ref f) vs) Q E s :=
  S mean mg mb dp un gd cn cs a ccd cl outer A₀ base h₀ L m s Q E B F X N T hk hdp hu ret
theorem mate_go {P : Value → Prop} {c lo hi : Nat} (hc : c = 97 ∨ c = 65 ∨ c = 98 ∨ c = 66) (t1 t2 t3 t4 : Nat) (h1 : lo ≤ t1 ∧ t1 < hi) (h2 : lo ≤ t2 ∧ t2 < hi) (h3 : lo ≤ t3 ∧ t3 < hi) (h4 : lo ≤ t4 ∧ t4 < hi)
    (h : ∀ t, lo ≤ t → t < hi → P (.str (sg (mate c)) t)) : P (if c = 97 then Value.str (Str.ofString "A") t1 else if c = 65 then .str (Str.ofString "a") t2 else if c = 98 then .str (Str.ofString "B") t3 else .str (Str.ofString "b") t4) := by
  rcases hc with rfl | rfl | rfl | rfl
  · exact h t1 h1.1 h1.2
  · exact h t2 h2.1 h2.2
  · exact h t3 h3.1 h3.2
  · exact h t4 h4.1 h4.2
theorem wpAny_tk {α : Type} {M : Model} {A : Around} {t : Sem α} {Q : α → Shared → Prop} {E : Value → Shared → Prop} {s : Shared} {n : Nat} (hn : n ≤ s.toks) (k : ∀ tk, n ≤ tk → wpAny M A t Q E { s with toks := tk }) : wpAny M A t Q E s := k s.toks hn
theorem execs_gen {M : Model} {A : Around} {l : List Stmt} {env : Env} {Q : Flow → Shared → Prop} {E : Value → Shared → Prop} {h : Heap} {g : Array GenState} {d : Drawn} {k : Nat} {os : OsState} (H : ∀ tk, k < tk → wpAny M A (execs l env) Q E ⟨h, g, d, tk, os⟩) : wpAny M A (execs l env) Q E ⟨h, g, d, k + 1, os⟩ := H (k + 1) (Nat.lt_succ_self _)
local macro_rules | `(tactic| walk_at "execs cons") => `(tactic| (k_here; (with_reducible refine execs_gen ?_); intro tk htk; (try dsimp only at htk)))
theorem mate_specT {w : World} {led : Led} {t : Tok} {c : Nat} (hc : c = 97 ∨ c = 65 ∨ c = 98 ∨ c = 66) : SpecK w 175 5 20 [.str (sg c) t] led (sg (mate c)) := by
  intro mean mg mb dp un gd cn cs' a ccd cl outer A₀ base h₀ L m s Q E B F X N T hk hdp hu ret
  walk_at "my enter"
  with_reducible refine wpAny_tk (n := s.toks) ?hn ?_
  case hn => exact Nat.le_add_right _ _
  intro T0 hT0
  (try dsimp only)
  iterate 20 (first | (k_unfold; (try dsimp only)) | walk1 | (dsimp only; walk1))
  rename Obj.IsDictOf _ _ _ => hD
  rename News _ _ _ (_ :: led) => N2
  refine wpAny_getItem_of (knd := PySem.strKind PR w) (strKind_is PR w (sg c) t) (Heap.DictOf.mapOf (Heap.dictOf_iff.mpr ⟨_, (N2 _ List.mem_cons_self).1, hD⟩)) (mate_all _ _ _ _ hc) ?_
  (try dsimp only)
  walk_at "my steps"
  rename Fr h₀ L _ _ => kF
  rename News h₀ L _ _ => kN
  refine mate_go (P := fun v => Q v _) (lo := s.toks) hc _ _ _ _ ?_ ?_ ?_ ?_ fun t h1 h2 => ret t _ _ _ h1 h2 kF kN fun p hp => List.mem_cons_of_mem _ hp
  all_goals
    simp only [List.length_cons, List.length_nil]
    constructor <;> first | omega | (dsimp only; omega)
noncomputable def apartRow (c : Nat) (cs : List Nat) : List Nat := [97, 65, 98, 66].foldl (fun l s => l.map (swap1 s 50)) ((cs.map (swap1 c 48)).map (swap1 (mate c) 49))
noncomputable def apart (cs : List Nat) : List (List Nat) := cs.map fun c => apartRow c cs
theorem sg_ne {c d : Nat} (h : c ≠ d) : (sg c == sg d) = false := by
  rw [beq_eq_false_iff_ne]
  exact fun e => h (sg_inj.mp e)
/-- a contract that wants a token to have been given out -/
noncomputable def SpecT (w : World) (f : Addr) (d u : Nat) (vs : List Value) (news : Led) (Post : Value → Led → Prop) : Prop :=
  ∀ (mean : ExcName → Option Value) (mg mb : Str → Option Value) (dp un : Nat) (gd : Option (List Code)) (cn : Str) (cs : Scope) (a : Addr) (ccd : Value) (cl : List (Str × Addr)) (outer : List Env) (A₀ : Around) (base h₀ : Heap) (L : Addr) (m : Str → Option Value) (s : Shared) (Q E : Value → Shared → Prop),
    Below A₀ base outer h₀ → Fr h₀ L s.heap m → (hd.heap_1 w.params).In h₀ → News h₀ L s.heap news → TT mean mg mb h₀ → cs.kind = .function → dp + d < recursionLimit → un + u < cLine → 0 < s.toks →
    Ret h₀ L m s Q Post → wpAny (model PR w) (ktrTop dp un gd cn cs L a ccd cl outer) (call (.ref f) vs) Q E s
local macro_rules | `(tactic| walk_at "my stop4") => `(tactic| (walk_at "my stop"; (fail_if_success (with_reducible show wpAny _ _ (call (Value.builtin "str.replace") _) _ _ _)); (fail_if_success (with_reducible show wpAny _ _ (call (Value.builtin "list.append") _) _ _ _))))
local macro_rules | `(tactic| walk_at "my upto4") => `(tactic| repeat' (first | (walk_at "my cut") | (k_unfold; (try dsimp only)) | (walk_at "my stop4"; walk1) | (walk_at "my stop4"; dsimp only; walk_at "my stop4"; walk1)))
theorem swaps_len : ∀ (ss l : List Nat), (ss.foldl (fun l s => l.map (swap1 s 50)) l).length = l.length
  | [], _ => rfl
  | s :: ss, l => by
    rw [List.foldl_cons, swaps_len ss]
    simp
noncomputable abbrev apI1 (led : Led) (cs : List Nat) (t : Tok) (i : Nat) (m₁ : Str → Option Value) (led₁ : Led) : Prop := ∃ a vs n, (a, listOf vs n) ∈ led₁ ∧ StrsAre vs.toList (((apart cs).take i).map txt) ∧ (∀ p ∈ led, p ∈ led₁ ∧ p.1 ≠ a) ∧ m₁ (Str.ofString "lines") = some (.ref a) ∧ m₁ (Str.ofString "text") = some (.str (txt cs) t)
theorem apI1_out {P : Prop} {led : Led} {cs : List Nat} {t : Tok} {i : Nat} {m₁ : Str → Option Value} {led₁ : Led} (H : apI1 led cs t i m₁ led₁) (kk : ∀ a, ∀ vs, ∀ n, ((a, listOf vs n) ∈ led₁) → (StrsAre vs.toList (((apart cs).take i).map txt)) → ((∀ p ∈ led, p ∈ led₁ ∧ p.1 ≠ a)) → (m₁ (Str.ofString "lines") = some (.ref a)) → (m₁ (Str.ofString "text") = some (.str (txt cs) t)) →  P) : P := by
  obtain ⟨z0, z1, z2, z3, z4, z5, z6, z7⟩ := H
  exact kk z0 z1 z2 z3 z4 z5 z6 z7
noncomputable abbrev apI2 (led₁ : Led) (cs : List Nat) (c : Nat) (a9 : Addr) (t : Tok) (k : Nat) (m₂ : Str → Option Value) (led₂ : Led) : Prop := (∃ tl, m₂ (Str.ofString "line") = some (.str (txt (([97, 65, 98, 66].take k).foldl (fun l s => l.map (swap1 s 50)) ((cs.map (swap1 c 48)).map (swap1 (mate c) 49)))) tl)) ∧ m₂ (Str.ofString "lines") = some (.ref a9) ∧ m₂ (Str.ofString "text") = some (.str (txt cs) t) ∧ ∀ p ∈ led₁, p ∈ led₂
theorem apI2_out {P : Prop} {led₁ : Led} {cs : List Nat} {c : Nat} {a9 : Addr} {t : Tok} {k : Nat} {m₂ : Str → Option Value} {led₂ : Led} (H : apI2 led₁ cs c a9 t k m₂ led₂) (kk : ∀ tl, (m₂ (Str.ofString "line") = some (.str (txt (([97, 65, 98, 66].take k).foldl (fun l s => l.map (swap1 s 50)) ((cs.map (swap1 c 48)).map (swap1 (mate c) 49)))) tl)) → (m₂ (Str.ofString "lines") = some (.ref a9)) → (m₂ (Str.ofString "text") = some (.str (txt cs) t)) → (∀ p ∈ led₁, p ∈ led₂) →  P) : P := by
  obtain ⟨⟨z0, z1⟩, z2, z3, z4⟩ := H
  exact kk z0 z1 z2 z3 z4
theorem apart_spec {w : World} {led : Led} {cs : List Nat} {t : Tok} (hlen : cs.length < 20) (hL : Letters cs) :
    Spec w 203 20 100 [.str (txt cs) t] led (fun v led' => ∃ a, v = .ref a ∧ TextsAt led' a (apart cs) ∧ ∀ p ∈ led, p ∈ led') := by
  intro mean mg mb dp un gd cn cs' a ccd cl outer A₀ base h₀ L m s Q E B F X N T hk hdp hu ret
  have hx : (txt cs).length = cs.length := by simp [Str.length]
  walk_at "my enter"
  with_reducible refine wpAny_tk (n := s.toks) ?hn ?_
  case hn => exact Nat.le_add_right _ _
  intro T0 hT0
  (try dsimp only)
  walk_at "my upto4"
  rename Fr _ _ _ _ => F1
  rename News _ _ _ _ => N1
  rename (∀ p ∈ led, p.1 < _) => l1
  refine wpAny_For ?_ (fun _ => rfl)
  walk_at "my upto4"
  refine for_strT (Ok := Still s) (apI1 led cs t)
    (letters_ascii hL) rfl rfl rfl (fun _ _ _ => still_go _ _) ⟨_, _, rfl⟩ F1 N1 ⟨_, _, _, List.mem_cons_self, .nil, fun p hp => ⟨List.mem_cons_of_mem _ hp, Nat.ne_of_lt (l1 p hp)⟩, rfl, rfl⟩ ?_ ?_ ?_
  · rintro i m₁ led₁ led₂ hk ⟨a9, vs, n, h1, h2, h3, h4, h5⟩
    exact ⟨a9, vs, n, hk _ h1 (.inr (show Value.type "list" ≠ Value.type "str_ascii_iterator" by decide)), h2, fun p hp => ⟨hk p (h3 p hp).1 (.inl (Nat.lt_trans (l1 p hp) (led_le N1 _ List.mem_cons_self))), (h3 p hp).2⟩, h4, h5⟩
  · intro i c u m₁ led₁ s₁ HS
    refine still_out HS fun h2 tk2 => ?_
    clear HS s₁
    intro hc hu1 hu2 HX
    refine apI1_out HX fun a9 vs n hm1 hm2 hm3 hn1 hn2 => ?_
    clear HX
    intro F2 N2
    (try clear F1)
    (try clear N1)
    (try dsimp only at hu1 hu2)
    have hc4 : c = 97 ∨ c = 65 ∨ c = 98 ∨ c = 66 := hL c (List.mem_of_getElem? hc)
    walk_at "my upto4"
    refine my_replace (by omega) (by omega) (sg_ne (by rcases hc4 with rfl | rfl | rfl | rfl <;> decide)) (by rw [hx]; omega) (by decide) fun t5 k5 hk5 => ?_
    (try dsimp only at hk5)
    rw [show Str.ofString "0" = sg 48 from by kernel_rfl, replace_swap]
    have hx5 : (txt (cs.map (swap1 c 48))).length ≤ 1000 := by simp [Str.length]; omega
    (try dsimp only)
    walk_at "my upto4"
    k_dflt (refine' (mate_specT (w := _) hc4).use ?B ?F ?X ?N ?T ?kK ?kd ?ku ?_)
    walk_at "use"
    intro t6 h6 tk6 n6 ht6 ht6' F6 N6 K6
    (try dsimp only at ht6)
    (try clear F2)
    (try clear N2)
    have hm1' := K6 _ hm1
    (try dsimp only)
    walk_at "my upto4"
    refine my_replace (by omega) (by omega) (sg_ne (d := 49) (by have := mate_letter hc4; omega)) hx5 (by decide) fun t7 k7 hk7 => ?_
    (try dsimp only at hk7)
    rw [show Str.ofString "1" = sg 49 from by kernel_rfl, replace_swap]
    (try dsimp only)
    walk_at "my upto4"
    refine wpAny_For ?_ (fun _ => rfl)
    walk_at "my upto4"
    rename Fr _ _ _ _ => F3
    rename News _ _ _ _ => N3
    rw [show Str.ofString "aAbB" = txt [97, 65, 98, 66] from by kernel_rfl]
    refine for_strT (Ok := Still s) (apI2 led₁ cs c a9 t)
      (by decide +kernel) rfl rfl rfl (fun _ _ _ => still_go _ _) ⟨_, _, rfl⟩ F3 N3 ⟨⟨_, rfl⟩, hn1, hn2, K6⟩ ?_ ?_ ?_
    · rintro k m₂ led₂ led₃ hk ⟨k1, k2, k3, k4⟩
      exact ⟨k1, k2, k3, fun p hp => hk p (k4 p hp) (.inl (led_le N3 p (K6 p hp)))⟩
    · intro k e u3 m₂ led₂ s₂ HS
      refine still_out HS fun h8 tk8 => ?_
      clear HS s₂
      intro he hu3 hu4 HX
      refine apI2_out HX fun tl k1 k2 k3 k4 => ?_
      clear HX
      intro F4 N4
      (try clear F3)
      (try clear N3)
      (try dsimp only at hu3 hu4)
      have he2 : e ≠ 50 := by
        have hm : e ∈ [97, 65, 98, 66] := List.mem_of_getElem? he
        simp at hm
        omega
      have hx8 : (txt (([97, 65, 98, 66].take k).foldl (fun l s => l.map (swap1 s 50)) ((cs.map (swap1 c 48)).map (swap1 (mate c) 49)))).length ≤ 1000 := by
        have := swaps_len ([97, 65, 98, 66].take k) ((cs.map (swap1 c 48)).map (swap1 (mate c) 49))
        simp [Str.length] at this ⊢
        omega
      walk_at "my upto4"
      refine my_replace (by omega) (by omega) (sg_ne he2) hx8 (by decide) fun t9 k9 hk9 => ?_
      rw [show Str.ofString "2" = sg 50 from by kernel_rfl, replace_swap]
      (try dsimp only)
      walk_at "my upto4"
      rename Fr _ _ _ _ => F5
      rename News _ _ _ _ => N5
      exact ⟨_, _, ⟨_, _, rfl⟩, F5, N5, fun p hp _ => hp, fun p hp => (nomatch hp), ex_str (by rw [List.take_add_one, he]; simp) rfl, k2, k3, k4⟩
    · intro m₂ led₂ s₂ HS
      refine still_out HS fun h8 tk8 => ?_
      clear HS s₂
      intro hT8 HX
      refine apI2_out HX fun tl k1 k2 k3 k4 => ?_
      clear HX
      intro F4 N4
      (try clear F3)
      (try clear N3)
      have hmA := k4 _ hm1
      have hsz9 : vs.size < 1000 := by
        have := hm2.length
        have h9 : (apart cs).length = cs.length := by simp [apart]
        simp at this
        omega
      have hne9 : ∀ p ∈ led₁, p.2.cls ≠ .type "list" → p.1 ≠ a9 := fun p hp hc => News.ne N4 (k4 p hp) hmA hc
      (try dsimp only)
      walk_at "my upto"
      rename Fr _ _ _ _ => F6
      rename News _ _ _ _ => N6
      have ht9 : (apart cs).take (i + 1) = (apart cs).take i ++ [apartRow c cs] := by
        rw [List.take_add_one]
        simp [apart, hc]
      refine ⟨_, _, ⟨_, _, rfl⟩, F6, N6, fun p hp hc => upd_other (k4 p hp) (hne9 p hp (by rw [hc]; decide)), (fun p hp => nomatch hp), a9, _, _, upd_self, ?_, fun p hp => ⟨upd_other (k4 p (hm3 p hp).1) (hm3 p hp).2, (hm3 p hp).2⟩, k2, k3⟩
      rw [ht9, List.map_append, Array.toList_push]
      exact strs_append hm2 (.cons _ _ .nil)
  · intro m₁ led₁ s₁ HS
    refine still_out HS fun h2 tk2 => ?_
    clear HS s₁
    intro hT2 HX
    refine apI1_out HX fun a9 vs n hm1 hm2 hm3 hn1 hn2 => ?_
    clear HX
    intro F2 N2
    (try clear F1)
    (try clear N1)
    (try dsimp only)
    walk_at "my upto4"
    rename Fr h₀ L _ _ => kF
    rename News h₀ L _ _ => kN
    refine ret _ _ _ _ kF kN ⟨a9, rfl, ⟨vs, n, hm1, ?_⟩, fun p hp => (hm3 p hp).1⟩
    rw [List.take_of_length_le (by simp [apart])] at hm2
    exact hm2
set_option maxHeartbeats 1000000
theorem off_G7 : True := by
  w_top off
  trivial
noncomputable def pairsL : List (Nat × Nat) := [(97, 65), (65, 97), (98, 66), (66, 98)]
noncomputable def strikes (ps : List (Nat × Nat)) (l : List Nat) : List Nat := ps.foldl (fun l p => strike p.1 p.2 l) l
noncomputable def rounds : Nat → List Nat → List Nat
  | 0, l => l
  | k + 1, l => strikes pairsL (rounds k l)
noncomputable def trimS : Nat → List Nat → List Nat
  | 0, w => w
  | k + 1, w => if w ≠ [] ∧ mate (w.getD 0 0) = w.getD (w.length - 1) 0 then trimS k (w.dropLast.drop 1) else w
noncomputable def struck (cs : List Nat) : List Nat := trimS cs.length (rounds 5 cs)
theorem strike_sub (p q : Nat) : ∀ l : List Nat, (strike p q l).length ≤ l.length ∧ ∀ x ∈ strike p q l, x ∈ l
  | [] => ⟨Nat.le_refl _, fun _ h => h⟩
  | [_] => ⟨Nat.le_refl _, fun _ h => h⟩
  | x :: y :: r => by
    unfold strike
    split
    · have h := strike_sub p q r
      exact ⟨by simp only [List.length_cons]; omega, fun z hz => List.mem_cons_of_mem _ (List.mem_cons_of_mem _ (h.2 z hz))⟩
    · have h := strike_sub p q (y :: r)
      refine ⟨by simp only [List.length_cons] at h ⊢; omega, fun z hz => ?_⟩
      rcases List.mem_cons.mp hz with rfl | hz
      · exact List.mem_cons_self
      · exact List.mem_cons_of_mem _ (h.2 z hz)
theorem strikes_sub : ∀ (ps : List (Nat × Nat)) (l : List Nat), (strikes ps l).length ≤ l.length ∧ ∀ x ∈ strikes ps l, x ∈ l
  | [], l => ⟨Nat.le_refl _, fun _ h => h⟩
  | p :: ps, l => by
    have h1 := strike_sub p.1 p.2 l
    have h2 := strikes_sub ps (strike p.1 p.2 l)
    exact ⟨Nat.le_trans h2.1 h1.1, fun x hx => h1.2 x (h2.2 x hx)⟩
theorem rounds_sub : ∀ (k : Nat) (l : List Nat), (rounds k l).length ≤ l.length ∧ ∀ x ∈ rounds k l, x ∈ l
  | 0, l => ⟨Nat.le_refl _, fun _ h => h⟩
  | k + 1, l => by
    have h1 := rounds_sub k l
    have h2 := strikes_sub pairsL (rounds k l)
    exact ⟨Nat.le_trans h2.1 h1.1, fun x hx => h1.2 x (h2.2 x hx)⟩
theorem pairs_get {t1 t2 t3 t4 lo hi : Nat} {i : Nat} {v : Value} (h1 : lo ≤ t1 ∧ t1 < hi) (h2 : lo ≤ t2 ∧ t2 < hi) (h3 : lo ≤ t3 ∧ t3 < hi) (h4 : lo ≤ t4 ∧ t4 < hi)
    (hv : ([.str (Str.ofString "aA") t1, .str (Str.ofString "Aa") t2, .str (Str.ofString "bB") t3, .str (Str.ofString "Bb") t4] : List Value)[i]? = some v) :
    ∃ p q u, pairsL[i]? = some (p, q) ∧ v = .str (txt [p, q]) u ∧ lo ≤ u ∧ u < hi ∧ True := by
  rcases i with _ | _ | _ | _ | i
  · simp at hv
    exact ⟨97, 65, t1, rfl, by rw [← hv]; exact congrArg (fun x => Value.str x t1) (by kernel_rfl), h1.1, h1.2, trivial⟩
  · simp at hv
    exact ⟨65, 97, t2, rfl, by rw [← hv]; exact congrArg (fun x => Value.str x t2) (by kernel_rfl), h2.1, h2.2, trivial⟩
  · simp at hv
    exact ⟨98, 66, t3, rfl, by rw [← hv]; exact congrArg (fun x => Value.str x t3) (by kernel_rfl), h3.1, h3.2, trivial⟩
  · simp at hv
    exact ⟨66, 98, t4, rfl, by rw [← hv]; exact congrArg (fun x => Value.str x t4) (by kernel_rfl), h4.1, h4.2, trivial⟩
  · simp at hv
theorem pair_ne (p q : Nat) : (txt [p, q] == Str.ofString "") = false := by
  rw [beq_eq_false_iff_ne]
  intro h
  have := congrArg (fun s : Str => s.cps.size) h
  revert this
  show ¬ (2 = (Str.ofString "").cps.size)
  rw [show (Str.ofString "").cps.size = 0 from by decide +kernel]
  decide
theorem ex_strv {x y : Str} {t : Tok} (e : x = y) : some (Value.str x t) = some (Value.str y t) := by rw [e]
theorem getD_mem {l : List Nat} {i : Nat} (h : i < l.length) : l.getD i 0 ∈ l := by
  rw [List.getD_eq_getElem?_getD, List.getElem?_eq_getElem h]
  exact List.getElem_mem h
theorem item_last {wd : List Nat} (h : 0 < wd.length) : Txt.item (txt wd) (-1) = sg (wd.getD (wd.length - 1) 0) := by
  have hx : (txt wd).length = wd.length := by simp [Str.length]
  have e := eq_of_beq (item_closes_neg (x := txt wd) (i := -1) (j := ((wd.length - 1 : Nat) : Int)) (by decide) (by omega) (by omega))
  rw [e, Int.toNat_natCast]
  show (⟨#[wd.toArray.getD (wd.length - 1) 0]⟩ : Str) = ⟨#[wd.getD (wd.length - 1) 0]⟩
  simp [Array.getD_eq_getD_getElem?, List.getD_eq_getElem?_getD]
theorem mate_ne {c : Nat} (hc : c = 97 ∨ c = 65 ∨ c = 98 ∨ c = 66) : mate c ≠ c := by
  rcases hc with rfl | rfl | rfl | rfl <;> decide
theorem slice_inner {wd : List Nat} (h : 2 ≤ wd.length) : Txt.slice (txt wd) (some 1) (some (-1)) = txt (wd.dropLast.drop 1) := by
  have hx : (txt wd).length = wd.length := by simp [Str.length]
  show StrLaws.sliceText (txt wd) (some 1) (some (-1)) = _
  rw [StrLaws.sliceText_neg_hi (txt wd) (some 1) (by decide) (by omega)]
  have e : (-1 : Int) + ((txt wd).length : Int) = ((wd.length - 1 : Nat) : Int) := by omega
  rw [e]
  refine (slice_mid (l := wd) (p := 1) (q := wd.length - 1) (by omega) (by omega)).trans ?_
  rw [List.dropLast_eq_take, List.drop_take]
noncomputable abbrev stI1 (led : Led) (cs : List Nat) (k : Nat) (m₁ : Str → Option Value) (led₁ : Led) : Prop := (∃ tt, m₁ (Str.ofString "text") = some (.str (txt (rounds k cs)) tt)) ∧ ∀ p ∈ led, p ∈ led₁
theorem stI1_out {P : Prop} {led : Led} {cs : List Nat} {k : Nat} {m₁ : Str → Option Value} {led₁ : Led} (H : stI1 led cs k m₁ led₁) (kk : ∀ tt, (m₁ (Str.ofString "text") = some (.str (txt (rounds k cs)) tt)) → (∀ p ∈ led, p ∈ led₁) →  P) : P := by
  obtain ⟨⟨z0, z1⟩, z2⟩ := H
  exact kk z0 z1 z2
noncomputable abbrev stI2 (led₁ : Led) (cs : List Nat) (k : Nat) (i : Nat) (m₂ : Str → Option Value) (led₂ : Led) : Prop := (∃ tt, m₂ (Str.ofString "text") = some (.str (txt (strikes (pairsL.take i) (rounds k cs))) tt)) ∧ ∀ p ∈ led₁, p ∈ led₂
theorem stI2_out {P : Prop} {led₁ : Led} {cs : List Nat} {k : Nat} {i : Nat} {m₂ : Str → Option Value} {led₂ : Led} (H : stI2 led₁ cs k i m₂ led₂) (kk : ∀ tt, (m₂ (Str.ofString "text") = some (.str (txt (strikes (pairsL.take i) (rounds k cs))) tt)) → (∀ p ∈ led₁, p ∈ led₂) →  P) : P := by
  obtain ⟨⟨z0, z1⟩, z2⟩ := H
  exact kk z0 z1 z2
noncomputable abbrev stI3 (led : Led) (cs : List Nat) (k : Nat) (m₂ : Str → Option Value) (led₂ : Led) : Prop := ∃ wd tw, Letters wd ∧ (wd.length ≤ k ∧ wd.length ≤ 20) ∧ trimS k wd = struck cs ∧ m₂ (Str.ofString "text") = some (.str (txt wd) tw) ∧ ∀ p ∈ led, p ∈ led₂
theorem stI3_out {P : Prop} {led : Led} {cs : List Nat} {k : Nat} {m₂ : Str → Option Value} {led₂ : Led} (H : stI3 led cs k m₂ led₂) (kk : ∀ wd, ∀ tw, (Letters wd) → (wd.length ≤ k) → (wd.length ≤ 20) → (trimS k wd = struck cs) → (m₂ (Str.ofString "text") = some (.str (txt wd) tw)) → (∀ p ∈ led, p ∈ led₂) →  P) : P := by
  obtain ⟨z0, z1, z2, ⟨z3, z4⟩, z5, z6, z7⟩ := H
  exact kk z0 z1 z2 z3 z4 z5 z6 z7
theorem struck_spec {w : World} {led : Led} {cs : List Nat} {t : Tok} (hlen : cs.length < 20) (hL : Letters cs) :
    Spec w 189 20 100 [.str (txt cs) t] led (fun v led' => (∃ t, v = .str (txt (struck cs)) t) ∧ ∀ p ∈ led, p ∈ led') := by
  intro mean mg mb dp un gd cn cs' a ccd cl outer A₀ base h₀ L m s Q E B F X N T hk hdp hu ret
  have hx : (txt cs).length = cs.length := by simp [Str.length]
  walk_at "my enter"
  with_reducible refine wpAny_tk (n := s.toks) ?hn ?_
  case hn => exact Nat.le_add_right _ _
  intro T0 hT0
  (try dsimp only)
  walk_at "my upto4"
  refine wpAny_For ?_ (fun _ => rfl)
  walk_at "my upto4"
  rename Fr _ _ _ _ => F1
  rename News _ _ _ _ => N1
  rename IsRange _ _ _ _ _ _ _ _ => hr1
  refine for_rangeT (n := 5) (Ok := Still s) (stI1 led cs)
    rfl (by decide) rfl rfl rfl (fun _ _ _ => still_go _ _) ⟨_, _, rfl⟩ F1 N1 hr1 ⟨⟨_, rfl⟩, fun p hp => hp⟩ ?_ ?_ ?_
  · rintro k m₁ led₁ led₂ hk ⟨h1, h2⟩
    exact ⟨h1, fun p hp => hk p (h2 p hp) (.inl (led_le N1 p hp))⟩
  · intro k tk9 m₁ led₁ s₁ HS
    refine still_out HS fun h2 tk2 => ?_
    clear HS s₁
    intro hk5 hT2 HX
    refine stI1_out HX fun tt hm1 K1 => ?_
    clear HX
    intro F2 N2
    (try clear F1)
    (try clear N1)
    (try clear hr1)
    (try dsimp only at hT2)
    walk_at "my upto4"
    refine wpAny_For ?_ (fun _ => rfl)
    walk_at "my upto4"
    rename Fr _ _ _ _ => F3
    rename News _ _ _ _ => N3
    refine for_tupleT (Ok := Still s) (stI2 led₁ cs k)
      rfl rfl rfl (fun _ _ _ => still_go _ _) ⟨_, _, rfl⟩ F3 N3 List.mem_cons_self ⟨⟨_, hm1⟩, fun p hp => List.mem_cons_of_mem _ hp⟩ ?_ ?_ ?_
    · rintro i m₂ led₂ led₃ hk ⟨h1, h2⟩
      exact ⟨h1, fun p hp => hk p (h2 p hp) (.inl (led_le N3 p (List.mem_cons_of_mem _ hp)))⟩
    · intro i v m₂ led₂ s₂ HS
      refine still_out HS fun h3 tk3 => ?_
      clear HS s₂
      intro hv hT3 hm9 HX
      refine stI2_out HX fun tl hm2 K2 => ?_
      clear HX
      intro F4 N4
      (try clear F3)
      (try clear N3)
      (try dsimp only at hT3)
      obtain ⟨p, q, u9, hpq, rfl, hu1, hu2, hpl⟩ := pairs_get (lo := 1) (hi := tk3) (by omega) (by omega) (by omega) (by omega) hv
      have hx9 : (txt (strikes (pairsL.take i) (rounds k cs))).length ≤ 1000 := by
        have h1 := (strikes_sub (pairsL.take i) (rounds k cs)).1
        have h2 := (rounds_sub k cs).1
        simp [Str.length]
        omega
      walk_at "my upto4"
      refine my_replace (by omega) (by omega) (pair_ne p q) hx9 (by decide) fun t9 k9 hk9 => ?_
      rw [replace_strike]
      (try dsimp only)
      walk_at "my upto4"
      rename Fr _ _ _ _ => F5
      rename News _ _ _ _ => N5
      exact ⟨_, _, ⟨_, _, rfl⟩, F5, N5, fun p hp _ => hp, fun p hp => by rw [List.mem_singleton.mp hp]; exact hm9, ⟨_, ex_strv (by rw [List.take_add_one, hpq]; simp [strikes])⟩, K2⟩
    · intro m₂ led₂ s₂ HS
      refine still_out HS fun h3 tk3 => ?_
      clear HS s₂
      intro hT3 HX
      refine stI2_out HX fun tl hm2 K2 => ?_
      clear HX
      intro F4 N4
      (try clear F3)
      (try clear N3)
      (try dsimp only)
      walk_at "my upto4"
      exact ⟨_, _, ⟨_, _, rfl⟩, F4, N4, fun p hp _ => K2 p hp, fun p hp => (nomatch hp), ⟨_, hm2⟩, fun p hp => K2 p (K1 p hp)⟩
  · intro m₁ led₁ s₁ HS
    refine still_out HS fun h2 tk2 => ?_
    clear HS s₁
    intro hT2 HX
    refine stI1_out HX fun tt hm1 K1 => ?_
    clear HX
    intro F2 N2
    (try clear F1)
    (try clear N1)
    (try clear hr1)
    (try dsimp only)
    walk_at "my upto4"
    have hr5 := rounds_sub 5 cs
    refine while_led (Ok := Still s) (n₀ := cs.length) (stI3 led cs)
      ⟨_, _, rfl⟩ F2 N2 ⟨_, _, fun x hx => hL x (hr5.2 x hx), ⟨hr5.1, by omega⟩, rfl, hm1, K1⟩ ?_
    intro k m₂ led₂ s₂ HS
    refine still_out HS fun h3 tk3 => ?_
    clear HS s₂
    intro F3 N3 HX
    refine stI3_out HX fun wd tw hLw hk7 hwl htr r1 K2 => ?_
    clear HX
    (try clear F2)
    (try clear N2)
    have hxw : (txt wd).length = wd.length := by simp [Str.length]
    walk_at "my upto4"
    · rename (txt wd != Str.ofString "") = true => hne
      rename 1 ≤ (txt wd).length => hp1
      have hl0 : 0 < wd.length := by omega
      have e0 : Txt.item (txt wd) 0 = sg (wd.getD 0 0) := item_txt (i := 0) hl0
      have e1 : Txt.item (txt wd) (-1) = sg (wd.getD (wd.length - 1) 0) := item_last hl0
      have hc0 := hLw _ (getD_mem (i := 0) hl0)
      have hc1 := hLw _ (getD_mem (i := wd.length - 1) (show wd.length - 1 < wd.length by omega))
      rw [e0]
      k_dflt (refine' (mate_spec (w := _) hc0).use ?B ?F ?X ?N ?T ?kK ?kd ?ku ?_)
      walk_at "use"
      intro v5 h5 tk5 n5 F5 N5 P5
      refine o_some (v := v5) P5 fun t5 K5 => ?_
      clear P5
      (try clear F3)
      (try clear N3)
      (try dsimp only)
      walk_at "my upto4"
      all_goals
        rename Fr _ _ _ _ => F6
        rename News _ _ _ _ => N6
        rename ((sg (mate (wd.getD 0 0)) == Txt.item (txt wd) (-1)) = _) => hcond
        rw [e1] at hcond
      · have hcc : mate (wd.getD 0 0) = wd.getD (wd.length - 1) 0 := sg_inj.mp (eq_of_beq hcond)
        have hl2 : 2 ≤ wd.length := by
          rcases Nat.lt_or_ge wd.length 2 with h | h
          · have e : wd.length - 1 = 0 := by omega
            rw [e] at hcc
            exact absurd hcc (mate_ne hc0)
          · exact h
        obtain ⟨k', rfl⟩ : ∃ k', k = k' + 1 := ⟨k - 1, by omega⟩
        refine ⟨_, n5, k', ⟨_, _, rfl⟩, F6, N6, Nat.lt_succ_self _, wd.dropLast.drop 1, _, fun x hx => hLw x (List.dropLast_subset _ (List.mem_of_mem_drop hx)), ⟨by simp; omega, by simp; omega⟩, ?_, ex_strv (slice_inner hl2), fun p hp => K5 p (K2 p hp)⟩
        rw [← htr, trimS, if_pos ⟨fun e => by rw [e] at hl0; exact Nat.lt_irrefl _ hl0, hcc⟩]
      · have hcc : ¬ mate (wd.getD 0 0) = wd.getD (wd.length - 1) 0 := fun e => by rw [e] at hcond; simp at hcond
        rename Fr h₀ L _ _ => kF
        rename News h₀ L _ _ => kN
        have e : wd = struck cs := by
          rw [← htr]
          cases k with
          | zero => rfl
          | succ k => rw [trimS, if_neg fun h => hcc h.2]
        exact ret _ _ _ _ kF kN ⟨⟨_, by rw [← e]⟩, fun p hp => K5 p (K2 p hp)⟩
    · rename (txt wd != Str.ofString "") = false => hne
      rename Fr h₀ L _ _ => kF
      rename News h₀ L _ _ => kN
      have hw : wd = [] := by
        have h1 : txt wd = Str.ofString "" := by simpa using hne
        have h2 : (txt wd).cps = #[] := (congrArg Str.cps h1).trans (by rfl)
        simpa [txt] using h2
      have e : wd = struck cs := by
        rw [← htr]
        cases k with
        | zero => rfl
        | succ k => rw [trimS, if_neg fun h => h.1 hw]
      exact ret _ _ _ _ kF kN ⟨⟨_, by rw [← e]⟩, K2⟩
end
theorem off_G8 : True := by
  w_top off
  trivial
section
set_option maxHeartbeats 1000000
local macro_rules | `(tactic| walk_at "cut on") => `(tactic| skip)
noncomputable abbrev crI1 (led : Led) (ms : List Nat) (l : Addr) (k : Nat) (m₁ : Str → Option Value) (led₁ : Led) : Prop := ∃ (f : List Bool) (r : Nat) (fr : Addr), f.length = ms.length ∧ f.count true ≤ k ∧ cornOut ms k f r = corners ms ∧ ListAt led₁ fr (f.map Value.bool).toArray ∧ fr ≠ l ∧ (∀ p ∈ led, p.1 ≠ fr) ∧ (∀ p ∈ led, p ∈ led₁) ∧ m₁ (Str.ofString "fresh") = some (.ref fr) ∧ m₁ (Str.ofString "mates") = some (.ref l) ∧ ∃ t, m₁ (Str.ofString "rounds") = some (.int (r : Nat) t)
theorem crI1_out {P : Prop} {led : Led} {ms : List Nat} {l : Addr} {k : Nat} {m₁ : Str → Option Value} {led₁ : Led} (H : crI1 led ms l k m₁ led₁) (kk : ∀ (f : List Bool), ∀ (r : Nat), ∀ (fr : Addr), (f.length = ms.length) → (f.count true ≤ k) → (cornOut ms k f r = corners ms) → (ListAt led₁ fr (f.map Value.bool).toArray) → (fr ≠ l) → ((∀ p ∈ led, p.1 ≠ fr)) → ((∀ p ∈ led, p ∈ led₁)) → (m₁ (Str.ofString "fresh") = some (.ref fr)) → (m₁ (Str.ofString "mates") = some (.ref l)) → ∀ t, (m₁ (Str.ofString "rounds") = some (.int (r : Nat) t)) →  P) : P := by
  obtain ⟨z0, z1, z2, z3, z4, z5, z6, z7, z8, z9, z10, z11, z12, z13⟩ := H
  exact kk z0 z1 z2 z3 z4 z5 z6 z7 z8 z9 z10 z11 z12 z13
noncomputable abbrev crI2 (led : Led) (r : Nat) (ms : List Nat) (l : Addr) (f : List Bool) (fr : Addr) (j : Nat) (m₁ : Str → Option Value) (led₁ : Led) : Prop := ∃ (f' : List Bool) (c : Nat), f'.length = ms.length ∧ c < ms.length ∧ f'.count true ≤ j ∧ cornIn ms j f' c = cornIn ms ms.length f (f.findIdx id) ∧ ListAt led₁ fr (f'.map Value.bool).toArray ∧ (∀ p ∈ led, p ∈ led₁) ∧ m₁ (Str.ofString "fresh") = some (.ref fr) ∧ m₁ (Str.ofString "mates") = some (.ref l) ∧ (∃ t, m₁ (Str.ofString "rounds") = some (.int ((r : Int) + 1) t)) ∧ ∃ t, m₁ (Str.ofString "corner") = some (.int (c : Nat) t)
theorem crI2_out {P : Prop} {led : Led} {r : Nat} {ms : List Nat} {l : Addr} {f : List Bool} {fr : Addr} {j : Nat} {m₁ : Str → Option Value} {led₁ : Led} (H : crI2 led r ms l f fr j m₁ led₁) (kk : ∀ (f' : List Bool), ∀ (c : Nat), (f'.length = ms.length) → (c < ms.length) → (f'.count true ≤ j) → (cornIn ms j f' c = cornIn ms ms.length f (f.findIdx id)) → (ListAt led₁ fr (f'.map Value.bool).toArray) → ((∀ p ∈ led, p ∈ led₁)) → (m₁ (Str.ofString "fresh") = some (.ref fr)) → (m₁ (Str.ofString "mates") = some (.ref l)) → ∀ t, (m₁ (Str.ofString "rounds") = some (.int ((r : Int) + 1) t)) → ∀ t, (m₁ (Str.ofString "corner") = some (.int (c : Nat) t)) →  P) : P := by
  obtain ⟨z0, z1, z2, z3, z4, z5, z6, z7, z8, z9, ⟨z10, z11⟩, z12, z13⟩ := H
  exact kk z0 z1 z2 z3 z4 z5 z6 z7 z8 z9 z10 z11 z12 z13
theorem corners_spec2 {w : World} {led : Led} {l : Addr} {its : Array Value} {ms : List Nat} (H : ListAt led l its) (HI : IntsL its ms) (hlen : ms.length < 100) (hms : ∀ x ∈ ms, x < ms.length) :
    Spec w 222 10 60 [.ref l] led (fun v led' => (∃ t, v = .int (corners ms : Nat) t) ∧ ∀ p ∈ led, p ∈ led') := by
  intro mean mg mb dp un gd cn cs' a ccd cl outer A₀ base h₀ L m s Q E B F X N T hk hdp hu ret
  walk_at "my enter"
  walk_at "my upto"
  rename News _ _ _ (_ :: led) => N1
  refine call_len_list (ListAt.isList (ListAt.mono H fun p hp => List.mem_cons_of_mem _ hp) N1) (by have := HI.1; omega) ?_
  walk_at "my upto"
  rename Fr _ _ _ (fun y => List.lookup y _) => F1
  have F2 : Fr _ _ _ (look [(Str.ofString "mates", Value.ref l)]) := F1
  (try clear F1)
  rename (∀ p ∈ led, p.1 < _) => l1
  have hb : ∀ p ∈ led, p.1 < _ := fun p hp => led_le N1 p (List.mem_cons_of_mem _ hp)
  refine mul_list F2 N1 (N1 _ List.mem_cons_self).1 (by have := HI.1; omega) (by have := HI.1; omega) (by have := HI.1; simp; omega) fun h3 F3 N3 => ?_
  rw [show ((its.size : Int)).toNat = ms.length by have := HI.1; omega, rep_true] at N3
  (try clear N1)
  (try clear F2)
  walk_at "my upto"
  rename Fr _ _ _ _ => F4
  rename News _ _ _ _ => N4
  refine while_led (Ok := Still s) (n₀ := ms.length) (crI1 led ms l) ⟨_, _, rfl⟩ F4 N4 ?_ ?_
  · refine ⟨List.replicate ms.length true, 0, _, by simp, by simp, rfl, ListAt.of List.mem_cons_self, ?_, ?_, fun p hp => List.mem_cons_of_mem _ (List.mem_cons_of_mem _ hp), rfl, rfl, _, rfl⟩
    · obtain ⟨ol, hml, _⟩ := H
      exact (Nat.ne_of_lt (hb _ hml)).symm
    · exact fun p hp => Nat.ne_of_lt (hb p hp)
  · intro k m₁ led₁ s₁ HS
    refine still_out HS fun h1 tk1 => ?_
    clear HS s₁
    intro F5 N5 HX
    refine crI1_out HX fun f r fr hfl hfc hco HL hne hne2 hK hm1 hm2 t1 hm3 => ?_
    clear HX
    (try clear F4)
    (try clear N4)
    (try clear F3)
    (try clear N3)
    walk_at "my upto"
    k_dflt (refine' (contains_spec (w := _) HL).use ?B ?F ?X ?N ?T ?kK ?kd ?ku ?_)
    walk_at "use"
    intro v9 h9 tk9 n9 F9 N9 P9
    refine o_is (v := v9) P9 fun HK => ?_
    have K9 := HK
    clear HK P9
    (try dsimp only)
    walk_at "my upto"
    · rename f.any id = true => hany
      have hpos : 0 < ms.length := by have := (findIdx_true hany).2; omega
      (try clear F5)
      (try clear N5)
      (try clear F9)
      (try clear N9)
      k_dflt (refine' (indexOf_spec (w := _) (ListAt.mono HL K9) hany (by omega)).use ?B ?F ?X ?N ?T ?kK ?kd ?ku ?_)
      walk_at "use"
      intro v8 h8 tk8 n8 F8 N8 P8
      refine o_some (v := v8) P8 fun t8 K8 => ?_
      clear P8
      (try dsimp only)
      walk_at "my upto"
      rename Fr _ _ _ (fun y => if y = Str.ofString "corner" then _ else _) => F7
      rename News _ _ _ n8 => N7
      have HL8 := ListAt.mono (ListAt.mono HL K9) K8
      obtain ⟨k', rfl⟩ : ∃ k', k = k' + 1 := ⟨k - 1, by have := any_count hany; omega⟩
      unfold cornOut at hco
      rw [if_pos hany] at hco
      refine while_led (Ok := Still s) (n₀ := ms.length) (crI2 led r ms l f fr) ⟨_, _, rfl⟩ F7 N7 ?_ ?_
      · refine ⟨f, f.findIdx id, hfl, by have := (findIdx_true hany).2; omega, by have := List.count_le_length (a := true) (l := f); omega, rfl, HL8, fun p hp => K8 _ (K9 _ (hK p hp)), hm1, hm2, ⟨_, rfl⟩, _, rfl⟩
      · intro j m₂ led₂ s₂ HS
        refine still_out HS fun h2 tk2 => ?_
        clear HS s₂
        intro F6 N6 HX
        refine crI2_out HX fun f' c hfl' hc' hfc' hci HL' hK' hn1 hn2 t2 hn3 t3 hn4 => ?_
        clear HX
        (try clear F7)
        (try clear N7)
        walk_at "my upto"
        k_dflt (refine' (getitem_spec (w := _) HL' (bools_get (c := c) (by omega)) (by omega)).use ?B ?F ?X ?N ?T ?kK ?kd ?ku ?_)
        walk_at "use"
        intro v7 h7 tk7 n7 F7 N7 P7
        refine o_is (v := v7) P7 fun HK => ?_
        have K7 := HK
        clear HK P7
        (try dsimp only)
        (try clear F6)
        (try clear N6)
        walk_at "my upto"
        · rename f'.getD c false = true => hft
          k_dflt (refine' (setitem_spec (w := _) (ListAt.mono HL' K7) (by simp; omega) (by omega)).use ?B ?F ?X ?N ?T ?kK ?kd ?ku ?_)
          walk_at "use"
          intro v6 h6 tk6 n6 F6 N6 P6
          refine o_is (v := v6) P6 fun HK => ?_
          have HL6 := HK.1
          have K6 := HK.2
          clear HK P6
          rw [bools_set] at HL6
          (try dsimp only)
          walk_at "my upto"
          have hK6 : ∀ p ∈ led, p ∈ n6 := fun p hp => K6 _ (K7 _ (hK' p hp)) (hne2 p hp)
          obtain ⟨t9, hit⟩ := HI.2 c hc'
          k_dflt (refine' (getitem_spec (w := _) (ListAt.mono H hK6) hit (by omega)).use ?B ?F ?X ?N ?T ?kK ?kd ?ku ?_)
          walk_at "use"
          intro v5 h5 tk5 n5 F5 N5 P5
          refine o_is (v := v5) P5 fun HK => ?_
          have K5 := HK
          clear HK P5
          (try dsimp only)
          walk_at "my upto"
          rename News _ _ _ n5 => N4
          refine call_len_list (ListAt.isList (ListAt.mono H fun p hp => K5 _ (hK6 p hp)) N4) (by have := HI.1; omega) ?_
          have hz : ((its.size : Nat) : Int) ≠ 0 := by have := HI.1; omega
          (try dsimp only)
          walk_at "my upto"
          rename Fr _ _ _ (fun y => if y = Str.ofString "corner" then _ else _) => F4
          rename News _ _ _ n5 => N4
          have hcs := count_set hft
          obtain ⟨j', rfl⟩ : ∃ j', j = j' + 1 := ⟨j - 1, by omega⟩
          have e1 : cornIn ms (j' + 1) f' c = cornIn ms j' (f'.set c false) ((ms.getD c 0 + 1) % ms.length) := by
            show (if f'.getD c false = true then _ else _) = _
            rw [if_pos hft]
          refine ⟨_, _, j', ⟨_, _, rfl⟩, F4, N4, Nat.lt_succ_self _, f'.set c false, (ms.getD c 0 + 1) % ms.length, by simp [hfl'], Nat.mod_lt _ hpos, by omega, e1.symm.trans hci, ListAt.mono HL6 K5, fun p hp => K5 _ (hK6 p hp), hn1, hn2, ⟨t2, hn3⟩, ex_int (by rw [HI.1]; exact fmod_nat _ _) rfl⟩
        · rename f'.getD c false = false => hff
          have e : f' = cornIn ms ms.length f (f.findIdx id) := by rw [← hci, cornIn_stop hff]
          refine ⟨_, _, k', ⟨_, _, rfl⟩, F7, N7, Nat.lt_succ_self _, f', r + 1, fr, hfl', ?_, ?_, ListAt.mono HL' K7, hne, hne2, fun p hp => K7 _ (hK' p hp), hn1, hn2, t2, by simpa using hn3⟩
          · rw [e]
            have := cornIn_less ms hany hpos
            omega
          · rw [e]
            exact hco
    · rename f.any id = false => hany
      have hr : r = corners ms := by
        rw [← hco]
        cases k with
        | zero => rfl
        | succ k => unfold cornOut; rw [if_neg (by rw [hany]; exact Bool.false_ne_true)]
      rename Fr h₀ L _ _ => kF
      rename News h₀ L _ _ => kN
      exact ret _ _ _ _ kF kN ⟨⟨t1, by rw [hr]⟩, fun p hp => K9 _ (hK p hp)⟩
end
section
set_option maxHeartbeats 1000000
theorem dict_any {p p' : Program} {w w' : World} {o : Obj} {kvs : List (Int × Value)} (H : o.IsDictOf (PySem.intKind p w) kvs) : o.IsDictOf (PySem.intKind p' w') kvs := by
  obtain ⟨es, ep, h1, h2, h3, h4, h5⟩ := H
  refine ⟨es, ep, h1, h2, h3, ?_, h5⟩
  clear h1 h2 h3 h5
  generalize es.toList = l at h4 ⊢
  induction h4 with
  | nil => exact .nil
  | cons a b _ ih => exact .cons a b ih
theorem hits_of {A : Around} {s : Shared} {ka kb : List (Int × Value)} {ps qs : Tab} (ha : PairsR ka ps) (hb : PairsR kb qs) (h : ∀ p ∈ ps, getT qs p.1 = some p.2) : KeqHits A s kb ka true := by
  induction ka generalizing ps with
  | nil => exact .nil
  | cons kv ka ih =>
    obtain ⟨x, t, ps', e, rfl, r⟩ := ha.cases
    obtain ⟨k, v⟩ := kv
    simp at e
    subst e
    have h0 : getT qs k = some x := h _ List.mem_cons_self
    rcases hb.get k with ⟨_, e2⟩ | ⟨y, u, e1, e2⟩
    · rw [e2] at h0; cases h0
    · rw [e2] at h0
      have hyx : y = x := Option.some.inj h0
      subst hyx
      have hE : SeqAt.EqAt A s (.int y t) (.int y u) true := by
        have := SeqAt.EqAt.int_int (A := A) (s := s) y t y u
        simpa using this
      exact KeqHits.hit (e := true) (b := true) e1 hE (ih r fun p hp => h p (List.mem_cons_of_mem _ hp))
theorem int_at {A : Around} {s : Shared} {x y : Int} {t u : Tok} (h : x = y) : SeqAt.EqAt A s (.int x t) (.int y u) true := by
  subst h
  have := SeqAt.EqAt.int_int (A := A) (s := s) x t x u
  simpa using this
theorem book_eq {prog : Program} {w : World} {A : Around} {E : Value → Shared → Prop} {s : Shared} {h₀ : Heap} {L a b : Addr} {led : Led} {x1 x2 x3 x4 y1 y2 y3 y4 : Int} {ps qs : Tab} {Q : Value → Shared → Prop} (N : News h₀ L s.heap led) (B1 : BookAt w led a x1 x2 x3 x4 ps) (B2 : BookAt w led b y1 y2 y3 y4 qs)
    (h1 : x1 = y1) (h2 : x2 = y2) (h3 : x3 = y3) (h4 : x4 = y4) (hl : ps.length = qs.length) (hq : ∀ p ∈ ps, getT qs p.1 = some p.2) (hu : A.units < cLine) (hu1 : A.in1.units < cLine) (h : Q (.bool true) s) : wpAny (model prog w) A (compareOp .Eq (.ref a) (.ref b)) Q E s := by
  obtain ⟨t1, t2, t3, t4, d1, n1, m1, ⟨o1, k1, md1, hd1, hp1⟩, l1⟩ := B1
  obtain ⟨u1, u2, u3, u4, d2, n2, m2, ⟨o2, k2, md2, hd2, hp2⟩, l2⟩ := B2
  have hD : SeqAt.EqAt A.in1 s (.ref d1) (.ref d2) true := by
    by_cases hne : d1 = d2
    · subst hne
      exact SeqAt.EqAt.same _
    · refine SeqAt.EqAt.of_refs hne fun prog' w' E' Q' hQ' => ?_
      have key := keq_pairs (prog := prog') (w := w') (knd := PySem.intKind prog' w') (A := A.in1) (E := E') (Q := Q') (r := true) N md1 md2 (dict_any hd1) (dict_any hd2) l1 l2 (by rw [PairsR.len hp1, PairsR.len hp2, hl]) hu1 (hits_of hp1 hp2 hq) hQ'
      exact key
  refine SeqAt.eq_tupleAt (e := fun _ => true) ⟨_, (N _ m1).1, rfl, _, rfl⟩ ⟨_, (N _ m2).1, rfl, _, rfl⟩ hu (fun j hj1 hj2 => ?_) ?_
  · have hj : j < 5 := by simpa using hj1
    rcases j with _ | _ | _ | _ | _ | j
    · exact int_at h1
    · exact int_at h2
    · exact int_at h3
    · exact int_at h4
    · exact hD
    · omega
  · exact h
theorem reads_strs {h : Heap} : ∀ {vs : List Value} {xs : List Str}, StrsAre vs xs → ReadsAll h vs (xs.map PyData.str) []
  | _, _, .nil => .nil
  | _, _, .cons x t r => ReadsAll.cons (as := []) (bs := []) (Reads.str x t) (reads_strs r)
theorem lay_strs : ∀ (rows : List (List Nat)), (∀ r ∈ rows, ∀ c ∈ r, c < 0x110000) → PyData.canLayAll0 ((rows.map txt).map PyData.str) = true ∧ PyData.depthAll ((rows.map txt).map PyData.str) = 0
  | [], _ => ⟨rfl, rfl⟩
  | r :: rows, h => by
    have ih := lay_strs rows fun r' hr => h r' (List.mem_cons_of_mem _ hr)
    have h0 := h r List.mem_cons_self
    constructor
    · simp only [List.map_cons, PyData.canLayAll0, PyData.canLay0, ih.1, Bool.and_true]
      unfold PyData.strOk
      simp [txt]
      exact h0
    · simp only [List.map_cons, PyData.depthAll, PyData.depth, ih.2]
      rfl
theorem eqv_strs : ∀ (xs : List Str), PyData.eqvAll (xs.map PyData.str) (xs.map PyData.str) = true
  | [] => rfl
  | x :: xs => by
    simp only [List.map_cons, PyData.eqvAll, PyData.eqv, eqv_strs xs, beq_self_eq_true, Bool.and_self]
theorem texts_ne {prog : Program} {w : World} {A : Around} {E : Value → Shared → Prop} {s : Shared} {h₀ : Heap} {L a b : Addr} {led : Led} {rows : List (List Nat)} {Q : Value → Shared → Prop} (N : News h₀ L s.heap led) (T1 : TextsAt led a rows) (T2 : TextsAt led b rows) (hr : ∀ r ∈ rows, ∀ c ∈ r, c < 0x110000) (hu : A.units + 64 < cLine)
    (h : Q (.bool false) s) : wpAny (model prog w) A (compareOp .NotEq (.ref a) (.ref b)) Q E s := by
  obtain ⟨vs, n, m1, s1⟩ := T1
  obtain ⟨us, n', m2, s2⟩ := T2
  have hl := lay_strs rows hr
  have hsh : SeqAt.shaped (.list ((rows.map txt).map PyData.str)) = true := by
    unfold SeqAt.shaped
    rw [show PyData.canLay0 (.list ((rows.map txt).map PyData.str)) = true from hl.1, show PyData.depth (.list ((rows.map txt).map PyData.str)) = 1 from by show PyData.depthAll _ + 1 = 1; rw [hl.2]]
    rfl
  refine ne_dataH (Reads.list (N _ m1).1 rfl rfl (reads_strs s1)) (Reads.list (N _ m2).1 rfl rfl (reads_strs s2)) hsh hsh hu ?_
  rw [show PyData.eqv (.list ((rows.map txt).map PyData.str)) (.list ((rows.map txt).map PyData.str)) = true from eqv_strs _]
  exact h
end
section
set_option maxHeartbeats 1000000
noncomputable abbrev Bk := Int × Int × Int × Int × Tab
noncomputable def handlesOf (n c : Nat) : Int := (((n : Int).fdiv 2 + 1) - (c : Int)).fdiv 2
noncomputable def msOf (row : List Nat) : List Nat := row.map (· - 1)
noncomputable def bookStep (n : Nat) (b : Bk) (row : List Nat) : Bk :=
  (1 + b.1, (corners (msOf row) : Int) + b.2.1, handlesOf n (corners (msOf row)) + b.2.2.1, handlesOf n (corners (msOf row)) * handlesOf n (corners (msOf row)) + b.2.2.2.1, mergeT b.2.2.2.2 [(handlesOf n (corners (msOf row)), 1)])
noncomputable def bookOf (n : Nat) (rows : List (List Nat)) : Bk := rows.foldl (bookStep n) (0, 0, 0, 0, [])
theorem book_take {n i : Nat} {rows : List (List Nat)} {row : List Nat} (h : rows[i]? = some row) : bookOf n (rows.take (i + 1)) = bookStep n (bookOf n (rows.take i)) row := by
  unfold bookOf
  rw [List.take_add_one, h]
  simp
theorem book_tab (n : Nat) : ∀ (rows : List (List Nat)) (b : Bk), (rows.foldl (bookStep n) b).2.2.2.2.length ≤ b.2.2.2.2.length + rows.length
  | [], b => by simp
  | r :: rows, b => by
    have h := book_tab n rows (bookStep n b r)
    have h2 := merge_len b.2.2.2.2 [(handlesOf n (corners (msOf r)), 1)]
    have h3 : (bookStep n b r).2.2.2.2 = mergeT b.2.2.2.2 [(handlesOf n (corners (msOf r)), 1)] := rfl
    rw [h3] at h
    simp only [List.foldl_cons, List.length_cons] at h h2 ⊢
    simp only [List.length_nil] at h2
    omega
theorem SpecH.use {w : World} {f : Addr} {d u : Nat} {vs : List Value} {news : Led} {Pre : Heap → Prop} {Post : Value → Led → Prop} {mean : ExcName → Option Value} {mg mb : Str → Option Value} {dp un : Nat} {gd : Option (List Code)} {cn : Str} {cs : Scope} {a : Addr} {ccd : Value} {cl : List (Str × Addr)} {outer : List Env} {A₀ : Around} {base h₀ : Heap} {L : Addr} {m : Str → Option Value} {s : Shared} {Q E : Value → Shared → Prop}
    (S : SpecH w f d u vs news Pre Post) (hp : Pre h₀) (B : Below A₀ base outer h₀) (F : Fr h₀ L s.heap m) (X : (hd.heap_1 w.params).In h₀) (N : News h₀ L s.heap news) (T : TT mean mg mb h₀) (hk : cs.kind = .function) (hdp : dp + d < recursionLimit) (hu : un + u < cLine)
    (ret : ∀ (v : Value) (h' : Heap) (tk' : Nat) (news' : Led), Fr h₀ L h' m → News h₀ L h' news' → Post v news' → Q v { s with heap := h', toks := tk' }) : wpAny (model PR w) (ktrTop dp un gd cn cs L a ccd cl outer) (call (.ref f) vs) Q E s :=
  S mean mg mb dp un gd cn cs a ccd cl outer A₀ base h₀ L m s Q E B F X N T hk hdp hu hp ret
theorem SpecT.use {w : World} {f : Addr} {d u : Nat} {vs : List Value} {news : Led} {Post : Value → Led → Prop} {mean : ExcName → Option Value} {mg mb : Str → Option Value} {dp un : Nat} {gd : Option (List Code)} {cn : Str} {cs : Scope} {a : Addr} {ccd : Value} {cl : List (Str × Addr)} {outer : List Env} {A₀ : Around} {base h₀ : Heap} {L : Addr} {m : Str → Option Value} {s : Shared} {Q E : Value → Shared → Prop}
    (S : SpecT w f d u vs news Post) (ht : 0 < s.toks) (B : Below A₀ base outer h₀) (F : Fr h₀ L s.heap m) (X : (hd.heap_1 w.params).In h₀) (N : News h₀ L s.heap news) (T : TT mean mg mb h₀) (hk : cs.kind = .function) (hdp : dp + d < recursionLimit) (hu : un + u < cLine)
    (ret : ∀ (v : Value) (h' : Heap) (tk' : Nat) (news' : Led), Fr h₀ L h' m → News h₀ L h' news' → Post v news' → Q v { s with heap := h', toks := tk' }) : wpAny (model PR w) (ktrTop dp un gd cn cs L a ccd cl outer) (call (.ref f) vs) Q E s :=
  S mean mg mb dp un gd cn cs a ccd cl outer A₀ base h₀ L m s Q E B F X N T hk hdp hu ht ret
end
section
set_option maxHeartbeats 1000000
theorem good_end {c : ClaimW} {cl : Str → Option Addr} {mean : ExcName → Option Value} {args : List WData} {s₁ s' : Shared} {L : Addr} {m : Str → Option Value} {led : Led} (hT : TabsAt tabs2 s₁.heap) (F : Fr (ghostOf s₁.heap tabs2) L s'.heap m) (N : News (ghostOf s₁.heap tabs2) L s'.heap led) (HT : Tabs led)
    (hn : ∀ cls, c.raises args cls = false) (hp : c.post args (.bool true) args = true) (hos : s'.os = s₁.os) (hg : AllBare s'.gens) : GoodWG c cl mean args s₁ (.ok (.ret (.bool true))) s' := by
  obtain ⟨ps, ps', a1, b1, a2, b2⟩ := HT.out
  have keep : ∀ b o, b ≠ 70 → b ≠ 63 → s₁.heap.get? b = some o → s'.heap.get? b = some o := fun b o h1 h2 e =>
    F.keep b o (ghost_ne e (by
      intro hm
      simp [tabs2] at hm
      rcases hm with h | h
      · exact h1 h
      · exact h2 h))
  have tab : ∀ c P ps, (c, P) ∈ tabs2 → s'.heap.get? P = some (tabObj ps) → ∀ o, s₁.heap.get? P = some o → isCodeTable s₁.heap P ∧ o = tabObj #[] ∧ s'.heap.get? P = some (tabObj ps) := fun c P ps hm hP o e => by
    have h := hT (c, P) hm
    rw [h.2] at e
    exact ⟨(h.1.tab h.2).isCodeTable, (Option.some.inj e).symm, hP⟩
  refine ⟨.inl ⟨.bool true, .bool true, [], rfl, hn, .bool true, hp, fun _ => ⟨List.nodup_nil, fun _ h => nomatch h⟩⟩, ⟨fun b o e => ?_, fun b o e => ?_⟩, hos, hg⟩
  · by_cases h1 : b = 70
    · subst h1
      obtain ⟨t1, rfl, t3⟩ := tab 74 70 ps (by decide) (N _ a1).1 o e
      exact .inr (.inl ⟨t1, rfl, #[], ps, rfl, by rw [Array.empty_append]; exact t3⟩)
    · by_cases h2 : b = 63
      · subst h2
        obtain ⟨t1, rfl, t3⟩ := tab 67 63 ps' (by decide) (N _ a2).1 o e
        exact .inr (.inl ⟨t1, rfl, #[], ps', rfl, by rw [Array.empty_append]; exact t3⟩)
      · exact .inl (keep b o h1 h2 e)
  · by_cases h1 : b = 70
    · subst h1
      exact ⟨_, (N _ a1).1⟩
    · by_cases h2 : b = 63
      · subst h2
        exact ⟨_, (N _ a2).1⟩
      · exact ⟨o, keep b o h1 h2 e⟩
end
section
set_option maxHeartbeats 1000000
theorem told_small {cs : List Nat} : ∀ r ∈ told cs, ∀ c ∈ r, c < 0x110000 := by
  intro r hr c hc
  obtain ⟨x, _, rfl⟩ := List.mem_map.mp hr
  obtain ⟨y, _, rfl⟩ := List.mem_map.mp hc
  have := subN_cases x y
  omega
theorem letters_pair {P : Nat → Nat → Prop} (h : P 97 97 ∧ P 97 65 ∧ P 97 98 ∧ P 97 66 ∧ P 65 97 ∧ P 65 65 ∧ P 65 98 ∧ P 65 66 ∧ P 98 97 ∧ P 98 65 ∧ P 98 98 ∧ P 98 66 ∧ P 66 97 ∧ P 66 65 ∧ P 66 98 ∧ P 66 66)
    {c d : Nat} (hc : c = 97 ∨ c = 65 ∨ c = 98 ∨ c = 66) (hd9 : d = 97 ∨ d = 65 ∨ d = 98 ∨ d = 66) : P c d := by
  obtain ⟨h1, h2, h3, h4, h5, h6, h7, h8, h9, h10, h11, h12, h13, h14, h15, h16⟩ := h
  rcases hc with rfl | rfl | rfl | rfl <;> rcases hd9 with rfl | rfl | rfl | rfl <;> assumption
theorem swap_pair {c d : Nat} (hc : c = 97 ∨ c = 65 ∨ c = 98 ∨ c = 66) (hd9 : d = 97 ∨ d = 65 ∨ d = 98 ∨ d = 66) :
    48 + subN c d = swap1 66 50 (swap1 98 50 (swap1 65 50 (swap1 97 50 (swap1 (mate c) 49 (swap1 c 48 d))))) :=
  letters_pair (P := fun c d => 48 + subN c d = swap1 66 50 (swap1 98 50 (swap1 65 50 (swap1 97 50 (swap1 (mate c) 49 (swap1 c 48 d)))))) (by decide +kernel) hc hd9
theorem told_apart {cs : List Nat} (hL : Letters cs) : told cs = apart cs := by
  unfold told apart
  refine List.map_congr_left fun c hc => ?_
  unfold toldRow apartRow
  simp only [List.foldl_cons, List.foldl_nil, List.map_map]
  refine List.map_congr_left fun x hx => ?_
  exact swap_pair (hL c hc) (hL x hx)
theorem sub_one {c d : Nat} (hc : c = 97 ∨ c = 65 ∨ c = 98 ∨ c = 66) (hd9 : d = 97 ∨ d = 65 ∨ d = 98 ∨ d = 66) : subN c d = 1 ↔ d = mate c :=
  letters_pair (P := fun c d => subN c d = 1 ↔ d = mate c) (by decide +kernel) hc hd9
theorem row_set {row : List Nat} {i j x : Nat} (h : j < row.length) : (row.set i x).getD j 0 = if i = j then x else row.getD j 0 := by
  rw [List.getD_eq_getElem?_getD, List.getD_eq_getElem?_getD, List.getElem?_set]
  split
  · rename_i e
    subst e
    simp [h]
  · rfl
/-- what is known of a row behind t turns -/
noncomputable def RowOk (n t : Nat) (row : List Nat) : Prop := row.length = n ∧ (∀ x ∈ row, x ≤ n) ∧ ∀ j, j < t → 1 ≤ row.getD j 0
theorem mem_set_le {l : List Nat} {i x n : Nat} (h : ∀ y ∈ l, y ≤ n) (hx : x ≤ n) : ∀ y ∈ l.set i x, y ≤ n := fun y hy => by
  rcases List.mem_or_eq_of_mem_set hy with h' | rfl
  · exact h y h'
  · exact hx
theorem sew_ok {W : List Nat} : ∀ (t : Nat), t ≤ W.length → ∀ row ∈ sewTo W t, RowOk W.length t row
  | 0, _, row, hr => by
    rw [sewTo, List.mem_singleton] at hr
    subst hr
    refine ⟨by simp, fun x hx => ?_, fun j hj => absurd hj (Nat.not_lt_zero _)⟩
    have := (List.mem_replicate.mp hx).2
    omega
  | t + 1, ht, row, hr => by
    obtain ⟨r, hr0, hr⟩ := List.mem_flatMap.mp hr
    obtain ⟨h1, h2, h3⟩ := sew_ok t (by omega) r hr0
    unfold sewRow at hr
    split at hr
    · obtain ⟨s, hs, hso⟩ := List.mem_filterMap.mp hr
      obtain ⟨s1, s2⟩ := others_lt hs
      unfold sewOne at hso
      split at hso
      · rename_i h0 _
        have e := (Option.some.inj hso).symm
        subst e
        refine ⟨by simp [h1], mem_set_le (mem_set_le h2 (by omega)) (by omega), fun j hj => ?_⟩
        rw [row_set (by simp; omega), row_set (by omega)]
        split
        · omega
        · split
          · omega
          · exact h3 j (by omega)
      · cases hso
    · rename_i h0
      rw [List.mem_singleton.mp hr]
      refine ⟨h1, h2, fun j hj => ?_⟩
      by_cases hj2 : j = t
      · subst hj2
        omega
      · exact h3 j (by omega)
theorem sew_full {W : List Nat} : ∀ row ∈ sewTo W W.length, row.length = W.length ∧ ∀ x ∈ row, 1 ≤ x ∧ x ≤ W.length := fun row hr => by
  obtain ⟨h1, h2, h3⟩ := sew_ok W.length (Nat.le_refl _) row hr
  refine ⟨h1, fun x hx => ⟨?_, h2 x hx⟩⟩
  obtain ⟨j, hj, rfl⟩ := List.getElem_of_mem hx
  have := h3 j (by omega)
  simpa [List.getD_eq_getElem?_getD, hj] using this
end
section
set_option maxHeartbeats 1000000
noncomputable def wsum (rows : List (List Nat)) : Nat := (rows.map fun r => 3 ^ r.count 0).sum
theorem wsum_append (a b : List (List Nat)) : wsum (a ++ b) = wsum a + wsum b := by simp [wsum]
theorem wsum_cons (r : List Nat) (a : List (List Nat)) : wsum (r :: a) = 3 ^ r.count 0 + wsum a := by simp [wsum]
theorem wsum_flat (f : List Nat → List (List Nat)) : ∀ rows : List (List Nat), (∀ r ∈ rows, wsum (f r) ≤ 3 ^ r.count 0) → wsum (rows.flatMap f) ≤ wsum rows
  | [], _ => Nat.le_refl _
  | r :: rows, h => by
    have ih := wsum_flat f rows fun r' hr => h r' (List.mem_cons_of_mem _ hr)
    have h0 := h r List.mem_cons_self
    rw [List.flatMap_cons, wsum_append, wsum_cons]
    omega
theorem len_wsum : ∀ rows : List (List Nat), rows.length ≤ wsum rows
  | [] => Nat.le_refl _
  | r :: rows => by
    have ih := len_wsum rows
    have : 1 ≤ 3 ^ r.count 0 := Nat.one_le_pow _ _ (by decide)
    rw [wsum_cons, List.length_cons]
    omega
theorem count_set0 : ∀ {l : List Nat} {i x : Nat}, i < l.length → l.getD i 0 = 0 → x ≠ 0 → (l.set i x).count 0 + 1 = l.count 0
  | [], _, _, h, _, _ => by simp at h
  | a :: l, 0, x, _, h0, hx => by
    have e : a = 0 := by simpa using h0
    subst e
    simp [hx]
  | a :: l, i + 1, x, h, h0, hx => by
    have ih := count_set0 (l := l) (i := i) (x := x) (by simpa using h) (by simpa using h0) hx
    rw [List.set_cons_succ, List.count_cons, List.count_cons]
    omega
theorem wsum_le (c : Nat) : ∀ rows : List (List Nat), (∀ r ∈ rows, 3 ^ r.count 0 = c) → wsum rows = rows.length * c
  | [], _ => by simp [wsum]
  | r :: rows, h => by
    rw [wsum_cons, wsum_le c rows fun r' hr => h r' (List.mem_cons_of_mem _ hr), h r List.mem_cons_self, List.length_cons, Nat.add_mul]
    omega
theorem others_len (W : List Nat) (t : Nat) : (othersN W t).length ≤ W.length - (t + 1) := by
  unfold othersN
  refine Nat.le_trans (List.length_filter_le _ _) ?_
  simp
theorem wsum_row {W row : List Nat} {t : Nat} (hn : W.length ≤ 10) (ht : t < W.length) (hl : row.length = W.length) : wsum (sewRow W t row) ≤ 3 ^ row.count 0 := by
  unfold sewRow
  split
  · rename_i h0
    by_cases hz : ((othersN W t).filterMap (sewOne t row)) = []
    · rw [hz]
      exact Nat.zero_le _
    · have hc : ∀ r ∈ (othersN W t).filterMap (sewOne t row), r.count 0 + 2 = row.count 0 := by
        intro r hr
        obtain ⟨s, hs, hso⟩ := List.mem_filterMap.mp hr
        obtain ⟨s1, s2⟩ := others_lt hs
        unfold sewOne at hso
        split at hso
        · rename_i hs0
          have e := (Option.some.inj hso).symm
          subst e
          have e1 := count_set0 (l := row) (i := t) (x := s + 1) (by omega) h0 (by omega)
          have e2 := count_set0 (l := row.set t (s + 1)) (i := s) (x := t + 1) (by simp; omega) (by rw [row_set (by omega), if_neg (by omega)]; exact hs0) (by omega)
          omega
        · cases hso
      obtain ⟨r0, hr0⟩ := List.exists_mem_of_ne_nil _ hz
      have h2 := hc r0 hr0
      obtain ⟨z, hz2⟩ : ∃ z, row.count 0 = z + 2 := ⟨row.count 0 - 2, by omega⟩
      rw [wsum_le (3 ^ z) _ fun r hr => by have := hc r hr; rw [show r.count 0 = z by omega]]
      have h3 : ((othersN W t).filterMap (sewOne t row)).length ≤ 9 := by
        refine Nat.le_trans (List.length_filterMap_le _ _) ?_
        have := others_len W t
        omega
      rw [hz2, Nat.pow_add]
      calc _ ≤ 9 * 3 ^ z := Nat.mul_le_mul_right _ h3
        _ = 3 ^ z * 3 ^ 2 := by rw [Nat.mul_comm]
  · rw [wsum_cons]
    show 3 ^ row.count 0 + 0 ≤ _
    omega
theorem sew_wsum {W : List Nat} (hn : W.length ≤ 10) : ∀ (t : Nat), t ≤ W.length → wsum (sewTo W t) ≤ 3 ^ W.length
  | 0, _ => by simp [sewTo, wsum]
  | t + 1, ht => by
    refine Nat.le_trans (wsum_flat _ _ fun r hr => ?_) (sew_wsum hn t (by omega))
    exact wsum_row hn (by omega) (sew_ok t (by omega) r hr).1
theorem sew_bound {W : List Nat} {k : Nat} (B : Bal W k) (hk : k ≤ 5) : ∀ i, i ≤ W.length → (sewTo W i).length ≤ 100000 := fun i hi => by
  have hn : W.length ≤ 10 := by have := B.len; omega
  have h1 := len_wsum (sewTo W i)
  have h2 := sew_wsum hn i hi
  have h3 : 3 ^ W.length ≤ 3 ^ 10 := Nat.pow_le_pow_right (by decide) hn
  have h4 : 3 ^ 10 ≤ 100000 := by decide
  omega
end
section
set_option maxHeartbeats 1000000
noncomputable def Lt (c : Nat) : Prop := c = 97 ∨ c = 65 ∨ c = 98 ∨ c = 66
theorem mate_mate {c : Nat} (hc : Lt c) : mate (mate c) = c := by
  rcases hc with rfl | rfl | rfl | rfl <;> rfl
theorem mate_swap {a b : Nat} (ha : Lt a) (hb : Lt b) : a = mate b ↔ b = mate a :=
  ⟨fun h => by rw [h, mate_mate hb], fun h => by rw [h, mate_mate ha]⟩
/-- no two side by side are mates -/
noncomputable def Rd : List Nat → Prop
  | [] => True
  | [_] => True
  | x :: y :: r => y ≠ mate x ∧ Rd (y :: r)
theorem Rd.tail {x : Nat} : ∀ {l : List Nat}, Rd (x :: l) → Rd l
  | [], _ => trivial
  | _ :: _, h => h.2
theorem rd_iff : ∀ {l : List Nat}, Rd l ↔ ∀ k x y, l[k]? = some x → l[k + 1]? = some y → y ≠ mate x
  | [] => ⟨fun _ k x y h => by simp at h, fun _ => trivial⟩
  | [a] => ⟨fun _ k x y _ h => by simp at h, fun _ => trivial⟩
  | a :: b :: r => by
    have ih := rd_iff (l := b :: r)
    constructor
    · rintro ⟨h1, h2⟩ k x y hx hy
      cases k with
      | zero =>
        simp at hx hy
        subst hx hy
        exact h1
      | succ k => exact ih.mp h2 k x y (by simpa using hx) (by simpa using hy)
    · intro h
      exact ⟨h 0 a b rfl rfl, ih.mpr fun k x y hx hy => h (k + 1) x y (by simpa using hx) (by simpa using hy)⟩
noncomputable def pushF (st : List Nat) (c : Nat) : List Nat := match st with
  | [] => [c]
  | x :: r => if c = mate x then r else c :: x :: r
theorem pushF_lt {st : List Nat} {c : Nat} (h : Letters st) (hc : Lt c) : Letters (pushF st c) := by
  cases st with
  | nil => intro x hx; rw [List.mem_singleton.mp hx]; exact hc
  | cons y r =>
    unfold pushF
    dsimp only
    split
    · exact fun x hx => h x (List.mem_cons_of_mem _ hx)
    · intro x hx
      rcases List.mem_cons.mp hx with rfl | hx
      · exact hc
      · exact h x hx
theorem pushF_rd {st : List Nat} {c : Nat} (h : Letters st) (hc : Lt c) (hr : Rd st) : Rd (pushF st c) := by
  cases st with
  | nil => trivial
  | cons y r =>
    unfold pushF
    dsimp only
    split
    · exact hr.tail
    · rename_i hn
      exact ⟨fun e => hn ((mate_swap (h y List.mem_cons_self) hc).mp e), hr⟩
theorem push_cancel {st : List Nat} {a : Nat} (h : Letters st) (ha : Lt a) (hr : Rd st) : pushF (pushF st a) (mate a) = st := by
  cases st with
  | nil => simp [pushF]
  | cons x r =>
    have hx : Lt x := h x List.mem_cons_self
    by_cases e : a = mate x
    · have e1 : pushF (x :: r) a = r := by simp [pushF, e]
      rw [e1, e, mate_mate hx]
      cases r with
      | nil => rfl
      | cons y r =>
        have hy : Lt y := h y (List.mem_cons_of_mem _ List.mem_cons_self)
        have hn : ¬ x = mate y := fun e => hr.1 ((mate_swap hx hy).mp e)
        simp [pushF, hn]
    · have e1 : pushF (x :: r) a = a :: x :: r := by simp [pushF, e]
      rw [e1]
      simp [pushF]
theorem fold_strike {p : Nat} (hp : Lt p) : ∀ (l st : List Nat), Letters l → Letters st → Rd st → (strike p (mate p) l).foldl pushF st = l.foldl pushF st
  | [], _, _, _, _ => rfl
  | [_], _, _, _, _ => rfl
  | x :: y :: r, st, hl, hs, hr => by
    unfold strike
    have hx : Lt x := hl x List.mem_cons_self
    split
    · rename_i e
      obtain ⟨rfl, rfl⟩ := e
      rw [fold_strike hp r st (fun z hz => hl z (List.mem_cons_of_mem _ (List.mem_cons_of_mem _ hz))) hs hr]
      simp only [List.foldl_cons]
      rw [push_cancel hs hx hr]
    · rw [List.foldl_cons, List.foldl_cons]
      exact fold_strike hp (y :: r) _ (fun z hz => hl z (List.mem_cons_of_mem _ hz)) (pushF_lt hs hx) (pushF_rd hs hx hr)
theorem letters_nil : Letters [] := fun x hx => nomatch hx
theorem fold_strikes : ∀ (ps : List (Nat × Nat)) (l : List Nat), (∀ p ∈ ps, Lt p.1 ∧ p.2 = mate p.1) → Letters l → (strikes ps l).foldl pushF [] = l.foldl pushF []
  | [], _, _, _ => rfl
  | p :: ps, l, hp, hl => by
    obtain ⟨h1, h2⟩ := hp p List.mem_cons_self
    have hs := strike_sub p.1 p.2 l
    have ih := fold_strikes ps (strike p.1 p.2 l) (fun q hq => hp q (List.mem_cons_of_mem _ hq)) fun x hx => hl x (hs.2 x hx)
    show (strikes ps (strike p.1 p.2 l)).foldl pushF [] = _
    rw [ih, h2]
    exact fold_strike h1 l [] hl letters_nil trivial
theorem pairs_mate : ∀ p ∈ pairsL, Lt p.1 ∧ p.2 = mate p.1 := by
  intro p hp
  simp [pairsL] at hp
  rcases hp with rfl | rfl | rfl | rfl <;> simp [Lt, mate]
theorem fold_rounds {l : List Nat} (hl : Letters l) : ∀ k, (rounds k l).foldl pushF [] = l.foldl pushF []
  | 0 => rfl
  | k + 1 => by
    show (strikes pairsL (rounds k l)).foldl pushF [] = _
    rw [fold_strikes pairsL _ pairs_mate fun x hx => hl x ((rounds_sub k l).2 x hx), fold_rounds hl k]
theorem strike_less (p q : Nat) : ∀ (l : List Nat) (k : Nat), l[k]? = some p → l[k + 1]? = some q → (strike p q l).length + 2 ≤ l.length
  | [], k, h, _ => by simp at h
  | [x], k, _, h => by simp at h
  | x :: y :: r, k, h1, h2 => by
    unfold strike
    split
    · have := (strike_sub p q r).1
      simp only [List.length_cons]
      omega
    · rename_i hn
      cases k with
      | zero =>
        simp at h1 h2
        exact absurd ⟨h1, h2⟩ hn
      | succ k =>
        have := strike_less p q (y :: r) k (by simpa using h1) (by simpa using h2)
        simp only [List.length_cons] at this ⊢
        omega
theorem strike_or (p q : Nat) (l : List Nat) : strike p q l = l ∧ (∀ k, ¬ (l[k]? = some p ∧ l[k + 1]? = some q)) ∨ (strike p q l).length + 2 ≤ l.length := by
  by_cases h : ∃ k, l[k]? = some p ∧ l[k + 1]? = some q
  · obtain ⟨k, h1, h2⟩ := h
    exact .inr (strike_less p q l k h1 h2)
  · have h' : ∀ k, ¬ (l[k]? = some p ∧ l[k + 1]? = some q) := fun k hk => h ⟨k, hk⟩
    exact .inl ⟨strike_free p q l h', h'⟩
theorem strikes_or : ∀ (ps : List (Nat × Nat)) (l : List Nat), strikes ps l = l ∧ (∀ p ∈ ps, ∀ k, ¬ (l[k]? = some p.1 ∧ l[k + 1]? = some p.2)) ∨ (strikes ps l).length + 2 ≤ l.length
  | [], l => .inl ⟨rfl, fun p hp => nomatch hp⟩
  | p :: ps, l => by
    rcases strike_or p.1 p.2 l with ⟨h1, h2⟩ | h1
    · have e : strikes (p :: ps) l = strikes ps l := by show strikes ps (strike p.1 p.2 l) = _; rw [h1]
      rw [e]
      rcases strikes_or ps l with ⟨h3, h4⟩ | h3
      · refine .inl ⟨h3, fun q hq => ?_⟩
        rcases List.mem_cons.mp hq with rfl | hq
        · exact h2
        · exact h4 q hq
      · exact .inr h3
    · refine .inr ?_
      have := (strikes_sub ps (strike p.1 p.2 l)).1
      show (strikes ps (strike p.1 p.2 l)).length + 2 ≤ _
      omega
theorem rd_of_free {l : List Nat} (hl : Letters l) (h : ∀ p ∈ pairsL, ∀ k, ¬ (l[k]? = some p.1 ∧ l[k + 1]? = some p.2)) : Rd l := by
  refine rd_iff.mpr fun k x y hx hy e => ?_
  subst e
  rcases hl x (List.mem_of_getElem? hx) with rfl | rfl | rfl | rfl
  · exact h (97, 65) (by simp [pairsL]) k ⟨hx, hy⟩
  · exact h (65, 97) (by simp [pairsL]) k ⟨hx, hy⟩
  · exact h (98, 66) (by simp [pairsL]) k ⟨hx, hy⟩
  · exact h (66, 98) (by simp [pairsL]) k ⟨hx, hy⟩
theorem rd_strikes {l : List Nat} (hr : Rd l) : strikes pairsL l = l := by
  have key : ∀ ps : List (Nat × Nat), (∀ p ∈ ps, p.2 = mate p.1) → strikes ps l = l := by
    intro ps
    induction ps with
    | nil => exact fun _ => rfl
    | cons p ps ih =>
      intro h
      show strikes ps (strike p.1 p.2 l) = l
      rw [strike_free p.1 p.2 l fun k hk => rd_iff.mp hr k _ _ hk.1 hk.2 (h p List.mem_cons_self)]
      exact ih fun q hq => h q (List.mem_cons_of_mem _ hq)
  exact key pairsL fun p hp => (pairs_mate p hp).2
theorem rounds_or {l : List Nat} (hl : Letters l) : ∀ k, Rd (rounds k l) ∨ (rounds k l).length + 2 * k ≤ l.length
  | 0 => .inr (by simp [rounds])
  | k + 1 => by
    have hk : Letters (rounds k l) := fun x hx => hl x ((rounds_sub k l).2 x hx)
    have e : rounds (k + 1) l = strikes pairsL (rounds k l) := rfl
    rcases rounds_or hl k with h | h
    · exact .inl (by rw [e, rd_strikes h]; exact h)
    · rcases strikes_or pairsL (rounds k l) with ⟨h1, h2⟩ | h1
      · exact .inl (by rw [e, h1]; exact rd_of_free hk h2)
      · exact .inr (by rw [e]; omega)
theorem rounds_rdn {l : List Nat} (hl : Letters l) (n : Nat) (hn : l.length ≤ 2 * n) : Rd (rounds n l) := by
  rcases rounds_or hl n with h | h
  · exact h
  · generalize rounds n l = r at h
    have e : r = [] := List.eq_nil_of_length_eq_zero (by omega)
    rw [e]
    trivial
theorem fold_rd : ∀ (l st : List Nat), Rd (st.reverse ++ l) → l.foldl pushF st = l.reverse ++ st
  | [], _, _ => rfl
  | c :: l, st, h => by
    have e : pushF st c = c :: st := by
      cases st with
      | nil => rfl
      | cons x r =>
        have hn : c ≠ mate x := by
          refine rd_iff.mp h r.length x c ?_ ?_
          · simp
          · simp
        simp [pushF, hn]
    rw [List.foldl_cons, e, fold_rd l (c :: st) (by simpa using h)]
    simp
theorem redStep_push {st : List Nat} {c : Nat} (h : Letters st) (hc : Lt c) : redStep st.reverse c = (pushF st c).reverse := by
  cases st with
  | nil => rfl
  | cons x r =>
    rw [List.reverse_cons, redStep_snoc]
    have hx := sub_one (h x List.mem_cons_self) hc
    by_cases e : c = mate x
    · rw [if_pos (hx.mpr e)]
      simp [pushF, e]
    · rw [if_neg fun h1 => e (hx.mp h1)]
      simp [pushF, e]
theorem red_fold : ∀ (l st : List Nat), Letters l → Letters st → l.foldl redStep st.reverse = (l.foldl pushF st).reverse
  | [], _, _, _ => rfl
  | c :: l, st, hl, hs => by
    have hc : Lt c := hl c List.mem_cons_self
    rw [List.foldl_cons, List.foldl_cons, redStep_push hs hc]
    exact red_fold l _ (fun x hx => hl x (List.mem_cons_of_mem _ hx)) (pushF_lt hs hc)
theorem red_rounds {cs : List Nat} (hl : Letters cs) (n : Nat) (hn : cs.length ≤ 2 * n) : cs.foldl redStep [] = rounds n cs := by
  have h1 := red_fold cs [] hl letters_nil
  rw [List.reverse_nil] at h1
  rw [h1, ← fold_rounds hl n, fold_rd _ [] (rounds_rdn hl n hn)]
  simp
theorem trim_cond {w : List Nat} (hl : Letters w) : subV (txt (w.take 1)) (txt (w.drop (w.length - 1))) = 1 ↔ (w ≠ [] ∧ mate (w.getD 0 0) = w.getD (w.length - 1) 0) := by
  cases w with
  | nil =>
    constructor
    · intro h
      exact absurd h (by decide +kernel)
    · exact fun h => absurd rfl h.1
  | cons x r =>
    have hlen : (x :: r).length - 1 < (x :: r).length := by simp
    have e1 : (x :: r).take 1 = [x] := rfl
    have e2 : (x :: r).drop ((x :: r).length - 1) = [(x :: r).getD ((x :: r).length - 1) 0] := by
      rw [List.drop_eq_getElem_cons hlen, List.getD_eq_getElem?_getD, List.getElem?_eq_getElem hlen]
      simp
    rw [e1, e2, ← sg_txt, ← sg_txt, subV_sg]
    have hx := sub_one (hl x List.mem_cons_self) (hl _ (getD_mem hlen))
    constructor
    · intro h
      exact ⟨List.cons_ne_nil _ _, (hx.mp (by omega)).symm⟩
    · rintro ⟨_, h⟩
      have := hx.mpr h.symm
      omega
theorem letters_inner {w : List Nat} (hl : Letters w) : Letters (w.dropLast.drop 1) := fun x hx => hl x (List.dropLast_subset _ (List.mem_of_mem_drop hx))
theorem trim_same : ∀ (k : Nat) (w : List Nat), Letters w → trimW k w = trimS k w
  | 0, _, _ => rfl
  | k + 1, w, hl => by
    unfold trimW trimS
    by_cases h : subV (txt (w.take 1)) (txt (w.drop (w.length - 1))) = 1
    · rw [if_pos h, if_pos ((trim_cond hl).mp h)]
      exact trim_same k _ (letters_inner hl)
    · rw [if_neg h, if_neg fun h2 => h ((trim_cond hl).mpr h2)]
theorem struck_core {cs : List Nat} (B : Bal cs 5) : struck cs = coreW cs := by
  have hn : cs.length ≤ 2 * 5 := by have := B.len; omega
  unfold struck coreW
  rw [red_rounds B.letters 5 hn]
  exact (trim_same _ _ fun x hx => B.letters x ((rounds_sub 5 cs).2 x hx)).symm
end
section
set_option maxHeartbeats 1000000
theorem trim_split {w : List Nat} (hl : Letters w) (h : w ≠ [] ∧ mate (w.getD 0 0) = w.getD (w.length - 1) 0) : ∃ x m, w = x :: (m ++ [mate x]) ∧ w.dropLast.drop 1 = m := by
  obtain ⟨h1, h2⟩ := h
  cases w with
  | nil => exact absurd rfl h1
  | cons x t =>
    rcases snoc_cases t with rfl | ⟨m, y, rfl⟩
    · simp at h2
      exact absurd h2 (mate_ne (hl x List.mem_cons_self))
    · have e : y = mate x := by
        simp [List.getD_eq_getElem?_getD] at h2
        exact h2.symm
      subst e
      refine ⟨x, m, rfl, ?_⟩
      have e2 : x :: (m ++ [mate x]) = (x :: m) ++ [mate x] := rfl
      rw [e2, List.dropLast_concat]
      rfl
theorem trimS_inv (P : List Nat → Prop) (hP : ∀ x m, Letters (x :: (m ++ [mate x])) → P (x :: (m ++ [mate x])) → P m) : ∀ (k : Nat) (w : List Nat), Letters w → P w → P (trimS k w)
  | 0, _, _, h => h
  | k + 1, w, hl, h => by
    unfold trimS
    by_cases hc : w ≠ [] ∧ mate (w.getD 0 0) = w.getD (w.length - 1) 0
    · rw [if_pos hc]
      obtain ⟨x, m, e, e2⟩ := trim_split hl hc
      rw [e2]
      have hm : Letters m := by
        rw [← e2]
        exact letters_inner hl
      refine trimS_inv P hP k m hm ?_
      rw [e] at h hl
      exact hP x m hl h
    · rw [if_neg hc]
      exact h
theorem trimS_stop : ∀ (k : Nat) (w : List Nat), Letters w → w.length ≤ k → ¬ (trimS k w ≠ [] ∧ mate ((trimS k w).getD 0 0) = (trimS k w).getD ((trimS k w).length - 1) 0)
  | 0, w, _, hk => by
    have e : w = [] := List.eq_nil_of_length_eq_zero (by omega)
    subst e
    exact fun h => h.1 rfl
  | k + 1, w, hl, hk => by
    unfold trimS
    by_cases hc : w ≠ [] ∧ mate (w.getD 0 0) = w.getD (w.length - 1) 0
    · rw [if_pos hc]
      exact trimS_stop k _ (letters_inner hl) (by simp; omega)
    · rw [if_neg hc]
      exact hc
noncomputable def sumf (f : Nat → Int) (l : List Nat) : Int := (l.map f).sum
theorem sumf_push {f : Nat → Int} (hf : ∀ c, Lt c → f (mate c) = - f c) {st : List Nat} {c : Nat} (hs : Letters st) : sumf f (pushF st c) = sumf f st + f c := by
  cases st with
  | nil => simp [pushF, sumf]
  | cons x r =>
    unfold pushF
    dsimp only
    split
    · rename_i e
      rw [e, hf x (hs x List.mem_cons_self)]
      simp [sumf]
      omega
    · simp [sumf]
      omega
theorem sumf_fold {f : Nat → Int} (hf : ∀ c, Lt c → f (mate c) = - f c) : ∀ (l st : List Nat), Letters l → Letters st → sumf f (l.foldl pushF st) = sumf f st + sumf f l
  | [], st, _, _ => by simp [sumf]
  | c :: l, st, hl, hs => by
    have hc : Lt c := hl c List.mem_cons_self
    rw [List.foldl_cons, sumf_fold hf l _ (fun x hx => hl x (List.mem_cons_of_mem _ hx)) (pushF_lt hs hc), sumf_push hf hs]
    simp [sumf]
    omega
theorem sumf_rev (f : Nat → Int) (l : List Nat) : sumf f l.reverse = sumf f l := by
  simp [sumf, List.sum_reverse]
noncomputable def fA (c : Nat) : Int := if c = 97 then 1 else if c = 65 then -1 else 0
noncomputable def fB (c : Nat) : Int := if c = 98 then 1 else if c = 66 then -1 else 0
theorem fA_mate : ∀ c, Lt c → fA (mate c) = - fA c := by
  rintro c (rfl | rfl | rfl | rfl) <;> decide
theorem fB_mate : ∀ c, Lt c → fB (mate c) = - fB c := by
  rintro c (rfl | rfl | rfl | rfl) <;> decide
theorem sumA : ∀ l : List Nat, sumf fA l = (l.count 97 : Int) - l.count 65
  | [] => rfl
  | c :: l => by
    have ih := sumA l
    unfold sumf at ih ⊢
    rw [List.map_cons, List.sum_cons, ih, List.count_cons, List.count_cons]
    unfold fA
    by_cases h1 : c = 97
    · subst h1
      simp
      omega
    · by_cases h2 : c = 65
      · subst h2
        simp
        omega
      · simp [h1, h2]
theorem sumB : ∀ l : List Nat, sumf fB l = (l.count 98 : Int) - l.count 66
  | [] => rfl
  | c :: l => by
    have ih := sumB l
    unfold sumf at ih ⊢
    rw [List.map_cons, List.sum_cons, ih, List.count_cons, List.count_cons]
    unfold fB
    by_cases h1 : c = 98
    · subst h1
      simp
      omega
    · by_cases h2 : c = 66
      · subst h2
        simp
        omega
      · simp [h1, h2]
theorem len_four : ∀ l : List Nat, Letters l → l.length = l.count 97 + l.count 65 + l.count 98 + l.count 66
  | [], _ => rfl
  | c :: l, h => by
    have ih := len_four l fun x hx => h x (List.mem_cons_of_mem _ hx)
    rw [List.length_cons, List.count_cons, List.count_cons, List.count_cons, List.count_cons]
    rcases h c List.mem_cons_self with rfl | rfl | rfl | rfl <;> simp <;> omega
/-- what is known of the ring that is left -/
structure CoreOk (W : List Nat) : Prop where
  letters : Letters W
  rd : Rd W
  cyc : ¬ (W ≠ [] ∧ mate (W.getD 0 0) = W.getD (W.length - 1) 0)
  a : W.count 97 = W.count 65
  b : W.count 98 = W.count 66
  len : W.length ≤ 10
theorem core_ok {cs : List Nat} (B : Bal cs 5) : CoreOk (coreW cs) := by
  have hl := B.letters
  obtain ⟨n, hn⟩ : ∃ n, cs.length ≤ 2 * n := ⟨5, by have := B.len; omega⟩
  have hn10 : cs.length ≤ 10 := by have := B.len; omega
  have e1 : coreW cs = trimS cs.length (cs.foldl redStep []) := by
    unfold coreW
    refine trim_same _ _ fun x hx => ?_
    rw [red_rounds hl n hn] at hx
    exact hl x ((rounds_sub n cs).2 x hx)
  have e2 : cs.foldl redStep [] = (cs.foldl pushF []).reverse := by
    have := red_fold cs [] hl letters_nil
    rwa [List.reverse_nil] at this
  have hRl : Letters (cs.foldl redStep []) := fun x hx => by
    rw [red_rounds hl n hn] at hx
    exact hl x ((rounds_sub n cs).2 x hx)
  have hRn : (cs.foldl redStep []).length ≤ cs.length := by have := red_len cs []; simpa using this
  have hRd : Rd (cs.foldl redStep []) := by
    rw [red_rounds hl n hn]
    exact rounds_rdn hl n hn
  have hRA : sumf fA (cs.foldl redStep []) = 0 := by
    rw [e2, sumf_rev, sumf_fold fA_mate cs [] hl letters_nil, sumA cs, B.a]
    simp [sumf]
  have hRB : sumf fB (cs.foldl redStep []) = 0 := by
    rw [e2, sumf_rev, sumf_fold fB_mate cs [] hl letters_nil, sumB cs, B.b]
    simp [sumf]
  generalize cs.foldl redStep [] = R at e1 hRl hRn hRd hRA hRB
  rw [e1]
  refine ⟨trimS_inv Letters (fun x m h _ z hz => h z (List.mem_cons_of_mem _ (List.mem_append_left _ hz))) _ _ hRl hRl, trimS_inv Rd (fun x m _ h => ?_) _ _ hRl hRd, trimS_stop _ _ hRl hRn, ?_, ?_, trimS_inv (fun l => l.length ≤ 10) (fun x m _ h => by simp at h; omega) _ _ hRl (by omega)⟩
  · refine rd_iff.mpr fun k a b ha hb => ?_
    refine rd_iff.mp h (k + 1) a b ?_ ?_
    · have hk := (List.getElem?_eq_some_iff.mp ha).1
      simpa [List.getElem?_append_left hk] using ha
    · have hk := (List.getElem?_eq_some_iff.mp hb).1
      simpa [List.getElem?_append_left hk] using hb
  · have := trimS_inv (fun l => sumf fA l = 0) (fun x m hl h => by
      have hm := fA_mate x (hl x List.mem_cons_self)
      simp [sumf] at h ⊢
      omega) cs.length R hRl hRA
    rw [sumA] at this
    omega
  · have := trimS_inv (fun l => sumf fB l = 0) (fun x m hl h => by
      have hm := fB_mate x (hl x List.mem_cons_self)
      simp [sumf] at h ⊢
      omega) cs.length R hRl hRB
    rw [sumB] at this
    omega
theorem core_bal {cs : List Nat} (B : Bal cs 5) : ∃ k, Bal (coreW cs) k ∧ k ≤ 5 := by
  have C := core_ok B
  have h := len_four _ C.letters
  have h1 := C.a
  have h2 := C.b
  have h3 := C.len
  exact ⟨(coreW cs).count 97 + (coreW cs).count 98, ⟨C.letters, by omega, C.a, C.b⟩, by omega⟩
end
section
set_option maxHeartbeats 1000000
/-! the finite check, in a form that is quick to reckon -/
noncomputable def bitB (m c : Nat) : Bool := Nat.beq (Nat.land (Nat.shiftRight m c) 1) 1
noncomputable def cinB (nx : Nat) (k : Nat) : Nat → Nat → Nat :=
  Nat.rec (motive := fun _ => Nat → Nat → Nat) (fun f _ => f) (fun _ ih f c => cond (bitB f c) (ih (Nat.xor f (Nat.shiftLeft 1 c)) (Nat.land (Nat.shiftRight nx (Nat.mul 4 c)) 15)) f) k
noncomputable def scanB (nx n : Nat) (j : Nat) : Nat → Nat → Nat → Nat :=
  Nat.rec (motive := fun _ => Nat → Nat → Nat → Nat) (fun _ _ r => r) (fun _ ih c f r => cond (bitB f c) (ih (Nat.succ c) (cinB nx n f c) (Nat.succ r)) (ih (Nat.succ c) f r)) j
noncomputable def cornersB (n nx : Nat) : Nat := scanB nx n n 0 (Nat.sub (Nat.shiftLeft 1 n) 1) 0
theorem bit_test (m c : Nat) : bitB m c = Nat.testBit m c := by
  rw [Nat.testBit_eq_decide_div_mod_eq]
  show Nat.beq (m >>> c &&& 1) 1 = _
  rw [Nat.and_one_is_mod, Nat.shiftRight_eq_div_pow]
  rw [Bool.eq_iff_iff, decide_eq_true_iff]
  exact ⟨Nat.eq_of_beq_eq_true, fun h => by rw [h]; rfl⟩
/-- a number says the same as a list of Booleans -/
noncomputable def MaskIs (m : Nat) (fl : List Bool) : Prop := ∀ i, Nat.testBit m i = fl.getD i false
theorem getD_set (fl : List Bool) (c i : Nat) (h : c < fl.length) : (fl.set c false).getD i false = if c = i then false else fl.getD i false := by
  rw [List.getD_eq_getElem?_getD, List.getD_eq_getElem?_getD, List.getElem?_set]
  split
  · rename_i e
    subst e
    simp [h]
  · rfl
theorem getD_lt {fl : List Bool} {c : Nat} (h : fl.getD c false = true) : c < fl.length := by
  rcases Nat.lt_or_ge c fl.length with h1 | h1
  · exact h1
  · rw [List.getD_eq_getElem?_getD, List.getElem?_eq_none h1] at h
    cases h
theorem mask_set {m c : Nat} {fl : List Bool} (h : MaskIs m fl) (hc : fl.getD c false = true) : MaskIs (Nat.xor m (Nat.shiftLeft 1 c)) (fl.set c false) := fun i => by
  show Nat.testBit (m ^^^ (1 <<< c)) i = _
  rw [Nat.testBit_xor, Nat.one_shiftLeft, Nat.testBit_two_pow, getD_set _ _ _ (getD_lt hc), h i]
  by_cases e : c = i
  · subst e
    rw [hc]
    simp
  · simp [e]
theorem cin_same {ms : List Nat} {nx : Nat} (hnx : ∀ c, c < ms.length → Nat.land (Nat.shiftRight nx (Nat.mul 4 c)) 15 = (ms.getD c 0 + 1) % ms.length) : ∀ (k f c : Nat) (fl : List Bool), MaskIs f fl → c < ms.length → MaskIs (cinB nx k f c) (cornIn ms k fl c)
  | 0, _, _, _, h, _ => h
  | k + 1, f, c, fl, h, hc => by
    show MaskIs (cond (bitB f c) (cinB nx k (Nat.xor f (Nat.shiftLeft 1 c)) (Nat.land (Nat.shiftRight nx (Nat.mul 4 c)) 15)) f) (if fl.getD c false = true then _ else fl)
    rw [bit_test, h c]
    by_cases e : fl.getD c false = true
    · rw [if_pos e, e]
      show MaskIs (cinB nx k _ _) _
      rw [hnx c hc]
      exact cin_same hnx k _ _ _ (mask_set h e) (Nat.mod_lt _ (by omega))
    · rw [if_neg e]
      rw [Bool.not_eq_true] at e
      rw [e]
      exact h
noncomputable def scanL (ms : List Nat) : Nat → Nat → List Bool → Nat → Nat
  | 0, _, _, r => r
  | j + 1, c, fl, r => if fl.getD c false = true then scanL ms j (c + 1) (cornIn ms ms.length fl c) (r + 1) else scanL ms j (c + 1) fl r
theorem scan_same {ms : List Nat} {nx : Nat} (hnx : ∀ c, c < ms.length → Nat.land (Nat.shiftRight nx (Nat.mul 4 c)) 15 = (ms.getD c 0 + 1) % ms.length) : ∀ (j c f r : Nat) (fl : List Bool), MaskIs f fl → c + j = ms.length → scanB nx ms.length j c f r = scanL ms j c fl r
  | 0, _, _, _, _, _, _ => rfl
  | j + 1, c, f, r, fl, h, hj => by
    show cond (bitB f c) (scanB nx ms.length j (Nat.succ c) (cinB nx ms.length f c) (Nat.succ r)) (scanB nx ms.length j (Nat.succ c) f r) = (if fl.getD c false = true then scanL ms j (c + 1) (cornIn ms ms.length fl c) (r + 1) else scanL ms j (c + 1) fl r)
    rw [bit_test, h c]
    by_cases e : fl.getD c false = true
    · rw [if_pos e, e]
      exact scan_same hnx j _ _ _ _ (cin_same hnx _ _ _ _ h (by omega)) (by omega)
    · rw [if_neg e]
      rw [Bool.not_eq_true] at e
      rw [e]
      exact scan_same hnx j _ _ _ _ h (by omega)
theorem cin_false (ms : List Nat) (i : Nat) : ∀ (k : Nat) (fl : List Bool) (c : Nat), fl.getD i false = false → (cornIn ms k fl c).getD i false = false
  | 0, _, _, h => h
  | k + 1, fl, c, h => by
    unfold cornIn
    split
    · rename_i hc
      refine cin_false ms i k _ _ ?_
      rw [getD_set _ _ _ (getD_lt hc)]
      split
      · rfl
      · exact h
    · exact h
theorem out_scan {ms : List Nat} (hpos : 0 < ms.length) : ∀ (j c : Nat) (fl : List Bool) (r K : Nat), c + j = ms.length → fl.length = ms.length → (∀ i, i < c → fl.getD i false = false) → fl.count true ≤ K → cornOut ms K fl r = scanL ms j c fl r
  | 0, c, fl, r, K, hj, hl, hf, hK => by
    have hany : fl.any id = false := none_any fun i hi => by
      have h1 := hf i (by omega)
      rw [List.getD_eq_getElem?_getD, List.getElem?_eq_getElem hi] at h1
      rw [List.getElem?_eq_getElem hi]
      exact congrArg some h1
    cases K with
    | zero => rfl
    | succ K => unfold cornOut; rw [if_neg (by rw [hany]; exact Bool.false_ne_true)]; rfl
  | j + 1, c, fl, r, K, hj, hl, hf, hK => by
    show _ = (if fl.getD c false = true then scanL ms j (c + 1) (cornIn ms ms.length fl c) (r + 1) else scanL ms j (c + 1) fl r)
    by_cases e : fl.getD c false = true
    · rw [if_pos e]
      have hcl := getD_lt e
      have hidx : fl.findIdx id = c := findIdx_here (fun k hk => by
        have h1 := hf k hk
        rw [List.getD_eq_getElem?_getD, List.getElem?_eq_getElem (by omega)] at h1
        rw [List.getElem?_eq_getElem (by omega)]
        exact congrArg some h1) (by
        rw [List.getD_eq_getElem?_getD, List.getElem?_eq_getElem hcl] at e
        rw [List.getElem?_eq_getElem hcl]
        exact congrArg some e)
      have hany : fl.any id = true := by
        rw [List.any_eq_true]
        refine ⟨true, ?_, rfl⟩
        rw [List.getD_eq_getElem?_getD, List.getElem?_eq_getElem hcl] at e
        exact (show fl[c] = true from e) ▸ List.getElem_mem hcl
      have h1 := any_count hany
      obtain ⟨K', rfl⟩ : ∃ K', K = K' + 1 := ⟨K - 1, by omega⟩
      have hless := cornIn_less ms hany hpos
      rw [cornOut, if_pos hany, hidx]
      rw [hidx] at hless
      refine out_scan hpos j (c + 1) _ _ K' (by omega) (by rw [len_cornIn]; exact hl) (fun i hi => ?_) (by omega)
      by_cases hic : i = c
      · subst hic
        obtain ⟨n', hn'⟩ : ∃ n', ms.length = n' + 1 := ⟨ms.length - 1, by omega⟩
        rw [hn']
        unfold cornIn
        rw [if_pos e]
        exact cin_false ms i n' _ _ (by rw [getD_set _ _ _ hcl, if_pos rfl])
      · exact cin_false ms i _ _ _ (hf i (by omega))
    · rw [if_neg e]
      refine out_scan hpos j (c + 1) fl r K (by omega) hl (fun i hi => ?_) hK
      by_cases hic : i = c
      · subst hic
        exact Bool.not_eq_true _ ▸ e
      · exact hf i (by omega)
theorem corners_same {ms : List Nat} {nx : Nat} (hpos : 0 < ms.length) (hnx : ∀ c, c < ms.length → Nat.land (Nat.shiftRight nx (Nat.mul 4 c)) 15 = (ms.getD c 0 + 1) % ms.length) : cornersB ms.length nx = corners ms := by
  unfold cornersB corners
  rw [out_scan hpos ms.length 0 (List.replicate ms.length true) 0 ms.length (by omega) (by simp) (fun i hi => absurd hi (Nat.not_lt_zero _)) (by simp)]
  refine scan_same hnx _ _ _ _ _ (fun i => ?_) (by omega)
  show Nat.testBit (1 <<< ms.length - 1) i = _
  rw [Nat.one_shiftLeft, Nat.testBit_two_pow_sub_one]
  by_cases h : i < ms.length
  · simp [List.getD_eq_getElem?_getD, h]
  · simp [List.getD_eq_getElem?_getD, h]
end
section
set_option maxHeartbeats 1000000
noncomputable def othB (m : Nat) (l : List Nat) : Nat → List Nat :=
  List.rec (motive := fun _ => Nat → List Nat) (fun _ => []) (fun x _ ih s => cond (Nat.beq m x) (s :: ih (Nat.succ s)) (ih (Nat.succ s))) l
noncomputable def foldB (g : Nat → Nat) (l : List Nat) : Nat := List.rec (motive := fun _ => Nat) 0 (fun x _ ih => Nat.add (g x) ih) l
noncomputable def gB (k c : Nat) : Nat := cond (Nat.beq (Nat.succ c) k) 1001 (cond (Nat.beq (Nat.succ (Nat.succ (Nat.succ c))) k) 1000 1000000)
noncomputable def dfsB (n k : Nat) (l : List Nat) : Nat → Nat → Nat → Nat :=
  List.rec (motive := fun _ => Nat → Nat → Nat → Nat) (fun _ _ nx => gB k (cornersB n nx))
   (fun x xs ih t mask nx =>
    cond (bitB mask t) (ih (Nat.succ t) mask nx)
      (foldB (fun s => cond (bitB mask s) 0
        (ih (Nat.succ t) (Nat.lor mask (Nat.shiftLeft 1 s)) (Nat.add nx (Nat.add (Nat.shiftLeft (cond (Nat.beq (Nat.succ s) n) 0 (Nat.succ s)) (Nat.mul 4 t)) (Nat.shiftLeft (Nat.succ t) (Nat.mul 4 s)))))) (othB (mate x) xs (Nat.succ t)))) l
noncomputable def tallyB (k : Nat) (cs : List Nat) : Nat := dfsB cs.length k cs 0 0 0
/-- the rows that grow out of one row -/
noncomputable def ext (W : List Nat) : Nat → Nat → List Nat → List (List Nat)
  | 0, _, row => [row]
  | j + 1, t, row => (sewRow W t row).flatMap (ext W j (t + 1))
theorem ext_all (W : List Nat) : ∀ j t, (sewTo W t).flatMap (ext W j t) = sewTo W (t + j)
  | 0, t => by
    show (sewTo W t).flatMap (fun row => [row]) = sewTo W t
    simp
  | j + 1, t => by
    show (sewTo W t).flatMap (fun row => (sewRow W t row).flatMap (ext W j (t + 1))) = _
    rw [← List.flatMap_assoc]
    show (sewTo W (t + 1)).flatMap _ = _
    rw [ext_all W j (t + 1)]
    congr 1
    omega
theorem oth_filter (m : Nat) (P : Nat → Bool) : ∀ (xs : List Nat) (s : Nat), (∀ i x, xs[i]? = some x → P (s + i) = Nat.beq m x) → othB m xs s = (List.range' s xs.length).filter P
  | [], _, _ => rfl
  | x :: xs, s, h => by
    show cond (Nat.beq m x) (s :: othB m xs (Nat.succ s)) (othB m xs (Nat.succ s)) = _
    have ih := oth_filter m P xs (s + 1) (fun i y hy => by
      have h1 := h (i + 1) y (by simpa using hy)
      rw [← h1]
      congr 1
      omega)
    have h0 := h 0 x (by simp)
    rw [show Nat.succ s = s + 1 from rfl, ih, List.length_cons, List.range'_succ, List.filter_cons]
    rw [Nat.add_zero] at h0
    rw [h0]
    cases Nat.beq m x <;> rfl
theorem oth_same {W xs : List Nat} {x t : Nat} (hL : Letters W) (hd9 : W.drop t = x :: xs) : othB (mate x) xs (t + 1) = othersN W t := by
  have hx : W[t]? = some x := by
    have h := congrArg (fun l : List Nat => l[0]?) hd9
    simpa using h
  have hxs : W.drop (t + 1) = xs := by
    rw [← List.tail_drop, hd9]
    rfl
  have hlen : W.length = t + 1 + xs.length := by
    have h1 := congrArg List.length hd9
    rw [List.length_drop, List.length_cons] at h1
    omega
  unfold othersN
  rw [show (List.range W.length).drop (t + 1) = List.range' (t + 1) xs.length by
    rw [List.range_eq_range', hlen, List.drop_range']
    congr 1 <;> omega]
  refine oth_filter _ _ _ _ (fun i y hy => ?_)
  have hy2 : W[t + 1 + i]? = some y := by
    rw [← hxs, List.getElem?_drop] at hy
    exact hy
  rw [List.getD_eq_getElem?_getD, List.getD_eq_getElem?_getD, hx, hy2]
  show (subN x y == 1) = _
  rw [Bool.eq_iff_iff, beq_iff_eq, sub_one (hL x (List.mem_of_getElem? hx)) (hL y (List.mem_of_getElem? hy2))]
  exact ⟨fun h => by rw [h]; exact Nat.beq_refl _, fun h => (Nat.eq_of_beq_eq_true h).symm⟩
/-- a row as one number, sixteen to each place -/
noncomputable def nxOf (n : Nat) : List Nat → Nat
  | [] => 0
  | x :: xs => (if x = n then 0 else x) + 16 * nxOf n xs
theorem nx_set (n x : Nat) : ∀ (row : List Nat) (i : Nat), i < row.length → row.getD i 0 = 0 → n ≠ 0 → nxOf n (row.set i x) = nxOf n row + (if x = n then 0 else x) * 16 ^ i
  | [], i, h, _, _ => absurd h (Nat.not_lt_zero _)
  | y :: ys, 0, _, h0, hn => by
    have hy : y = 0 := by simpa using h0
    subst hy
    show (if x = n then 0 else x) + 16 * nxOf n ys = (if 0 = n then 0 else 0) + 16 * nxOf n ys + _
    rw [show (if (0 : Nat) = n then 0 else 0) = 0 by split <;> rfl, Nat.pow_zero]
    omega
  | y :: ys, i + 1, h, h0, hn => by
    have ih := nx_set n x ys i (by simpa using h) (by simpa using h0) hn
    show (if y = n then 0 else y) + 16 * nxOf n (ys.set i x) = (if y = n then 0 else y) + 16 * nxOf n ys + _
    rw [ih, Nat.pow_succ, Nat.mul_add]
    have : (if x = n then 0 else x) * (16 ^ i * 16) = 16 * ((if x = n then 0 else x) * 16 ^ i) := by
      rw [← Nat.mul_assoc, Nat.mul_comm]
    omega
theorem nx_digit (n : Nat) : ∀ (row : List Nat) (i : Nat), i < row.length → (∀ x ∈ row, x < 16) → nxOf n row / 16 ^ i % 16 = (if row.getD i 0 = n then 0 else row.getD i 0)
  | [], i, h, _ => absurd h (Nat.not_lt_zero _)
  | y :: ys, 0, _, hb => by
    have hy := hb y List.mem_cons_self
    show ((if y = n then 0 else y) + 16 * nxOf n ys) / 16 ^ 0 % 16 = (if y = n then 0 else y)
    rw [Nat.pow_zero, Nat.div_one]
    split <;> omega
  | y :: ys, i + 1, h, hb => by
    have ih := nx_digit n ys i (by simpa using h) (fun x hx => hb x (List.mem_cons_of_mem _ hx))
    have hy := hb y List.mem_cons_self
    show ((if y = n then 0 else y) + 16 * nxOf n ys) / 16 ^ (i + 1) % 16 = _
    rw [Nat.pow_succ, Nat.mul_comm (16 ^ i) 16, ← Nat.div_div_eq_div_mul]
    rw [show ((if y = n then 0 else y) + 16 * nxOf n ys) / 16 = nxOf n ys by split <;> omega, ih]
    simp
theorem nx_rep (n m : Nat) (hn : n ≠ 0) : nxOf n (List.replicate m 0) = 0 := by
  induction m with
  | zero => rfl
  | succ m ih =>
    rw [List.replicate_succ]
    show (if 0 = n then 0 else 0) + 16 * nxOf n _ = 0
    rw [ih, if_neg (fun e => hn e.symm)]
noncomputable def GR (k : Nat) (row : List Nat) : Nat := gB k (corners (msOf row))
structure RelB (n t mask nx : Nat) (row : List Nat) : Prop where
  bits : ∀ s, t ≤ s → s < n → Nat.testBit mask s = decide (row.getD s 0 ≠ 0)
  nx : nx = nxOf n row
theorem fold_nil (g : Nat → Nat) : foldB g [] = 0 := rfl
theorem fold_cons (g : Nat → Nat) (x : Nat) (l : List Nat) : foldB g (x :: l) = g x + foldB g l := rfl
theorem dfs_same {W : List Nat} (hL : Letters W) (hn : W.length < 16) (k : Nat) : ∀ (xs : List Nat) (t mask nx : Nat) (row : List Nat), W.drop t = xs → t + xs.length = W.length → 0 < W.length → row ∈ sewTo W t → RelB W.length t mask nx row → dfsB W.length k xs t mask nx = ((ext W xs.length t row).map (GR k)).sum
  | [], t, mask, nx, row, _, ht, hpos, hr, R => by
    have ht' : t = W.length := by simpa using ht
    subst ht'
    have hf := sew_full row hr
    show gB k (cornersB W.length nx) = ([row].map (GR k)).sum
    rw [List.map_singleton, List.sum_singleton]
    show _ = gB k (corners (msOf row))
    have hml : (msOf row).length = W.length := by rw [msOf, List.length_map, hf.1]
    rw [← hml, corners_same (by omega) (fun c hc => ?_)]
    show (nx >>> (4 * c)) &&& (2 ^ 4 - 1) = _
    rw [Nat.and_two_pow_sub_one_eq_mod, Nat.shiftRight_eq_div_pow, Nat.pow_mul, R.nx]
    show nxOf W.length row / 16 ^ c % 16 = _
    have hcl : c < row.length := by omega
    rw [nx_digit _ row c hcl (fun x hx => by have := (hf.2 x hx).2; omega), hml]
    have hx : row.getD c 0 = row[c] := by rw [List.getD_eq_getElem?_getD, List.getElem?_eq_getElem hcl]; rfl
    have hm : (msOf row).getD c 0 = row[c] - 1 := by
      rw [msOf, List.getD_eq_getElem?_getD, List.getElem?_map, List.getElem?_eq_getElem hcl]
      rfl
    have h1 := hf.2 row[c] (List.getElem_mem hcl)
    rw [hx, hm, Nat.sub_add_cancel h1.1]
    split
    · rename_i e
      rw [e, Nat.mod_self]
    · rw [Nat.mod_eq_of_lt (by omega)]
  | x :: xs, t, mask, nx, row, hd9, ht, hpos, hr, R => by
    have hxs : W.drop (t + 1) = xs := by
      rw [← List.tail_drop, hd9]
      rfl
    have htl : t + 1 + xs.length = W.length := by
      rw [List.length_cons] at ht
      omega
    have hrl := sew_len row hr
    have mem1 : ∀ row' ∈ sewRow W t row, row' ∈ sewTo W (t + 1) := fun row' h => List.mem_flatMap.2 ⟨row, hr, h⟩
    show cond (bitB mask t) (dfsB W.length k xs (Nat.succ t) mask nx) (foldB (fun s => cond (bitB mask s) 0
        (dfsB W.length k xs (Nat.succ t) (Nat.lor mask (Nat.shiftLeft 1 s)) (Nat.add nx (Nat.add (Nat.shiftLeft (cond (Nat.beq (Nat.succ s) W.length) 0 (Nat.succ s)) (Nat.mul 4 t)) (Nat.shiftLeft (Nat.succ t) (Nat.mul 4 s)))))) (othB (mate x) xs (Nat.succ t))) = (((sewRow W t row).flatMap (ext W xs.length (t + 1))).map (GR k)).sum
    rw [bit_test, R.bits t (Nat.le_refl _) (by omega)]
    by_cases e : row.getD t 0 = 0
    · have hsr : sewRow W t row = (othersN W t).filterMap (sewOne t row) := by rw [sewRow, if_pos e]
      rw [decide_eq_false (by simpa using e)]
      show foldB _ (othB (mate x) xs (t + 1)) = _
      rw [oth_same hL hd9]
      rw [hsr] at mem1 ⊢
      have hlt : ∀ s ∈ othersN W t, t < s ∧ s < W.length := fun s hs => others_lt hs
      revert mem1 hlt
      generalize othersN W t = L
      intro mem1 hlt
      clear hsr
      induction L with
      | nil => rfl
      | cons s L ih =>
        have hs := hlt s List.mem_cons_self
        have ih := ih (fun row' h => mem1 row' (by
          rw [List.filterMap_cons]
          split
          · exact h
          · exact List.mem_cons_of_mem _ h)) (fun s' h => hlt s' (List.mem_cons_of_mem _ h))
        rw [fold_cons, ih, bit_test, R.bits s (by omega) hs.2, List.filterMap_cons]
        by_cases e2 : row.getD s 0 = 0
        · have h1 : sewOne t row s = some ((row.set t (s + 1)).set s (t + 1)) := by rw [sewOne, if_pos e2]
          rw [h1, decide_eq_false (by simpa using e2)]
          show dfsB _ _ _ _ _ _ + _ = _
          rw [List.flatMap_cons, List.map_append, List.sum_append]
          congr 1
          refine dfs_same hL hn k xs (t + 1) _ _ _ hxs htl hpos (mem1 _ (by rw [List.filterMap_cons, h1]; exact List.mem_cons_self)) ⟨fun s' h1 h2 => ?_, ?_⟩
          · show Nat.testBit (mask ||| (1 <<< s)) s' = _
            rw [Nat.testBit_or, Nat.one_shiftLeft, Nat.testBit_two_pow, R.bits s' (by omega) h2, row_set (by rw [List.length_set]; omega), row_set (by omega)]
            by_cases e3 : s = s'
            · simp [e3]
            · rw [if_neg e3, if_neg (by omega)]
              simp [e3]
          · show nx + ((cond (Nat.beq (s + 1) W.length) 0 (s + 1)) <<< (4 * t) + (t + 1) <<< (4 * s)) = _
            have e2' : (row.set t (s + 1)).getD s 0 = 0 := by rw [row_set (by omega), if_neg (by omega)]; exact e2
            rw [nx_set _ _ _ s (by rw [List.length_set]; omega) e2' (by omega), nx_set _ _ _ t (by omega) e (by omega), if_neg (show ¬ t + 1 = W.length by omega), R.nx, Nat.shiftLeft_eq, Nat.shiftLeft_eq, Nat.pow_mul, Nat.pow_mul]
            have hc : cond (Nat.beq (s + 1) W.length) 0 (s + 1) = if s + 1 = W.length then 0 else s + 1 := by
              by_cases e4 : s + 1 = W.length
              · rw [if_pos e4, e4, Nat.beq_refl]
                rfl
              · rw [if_neg e4, show Nat.beq (s + 1) W.length = false by cases h : Nat.beq (s + 1) W.length with | false => rfl | true => exact absurd (Nat.eq_of_beq_eq_true h) e4]
                rfl
            rw [hc, Nat.add_assoc]
        · have h1 : sewOne t row s = none := by rw [sewOne, if_neg e2]
          rw [h1, decide_eq_true (by simpa using e2)]
          exact Nat.zero_add _
    · have hsr : sewRow W t row = [row] := by rw [sewRow, if_neg e]
      rw [decide_eq_true e, hsr, List.flatMap_singleton]
      exact dfs_same hL hn k xs (t + 1) mask nx row hxs htl hpos (mem1 row (by rw [hsr]; exact List.mem_singleton_self _)) ⟨fun s h1 h2 => R.bits s (by omega) h2, R.nx⟩
theorem tally_same {W : List Nat} (hL : Letters W) (hn : W.length < 16) (hpos : 0 < W.length) (k : Nat) : tallyB k W = ((sewTo W W.length).map (GR k)).sum := by
  have h := dfs_same hL hn k W 0 0 0 (List.replicate W.length 0) (by rfl) (by omega) hpos (by rw [sewTo]; exact List.mem_singleton_self _) ⟨fun s _ h2 => by simp [List.getD_eq_getElem?_getD, List.getElem?_replicate, h2], (nx_rep _ _ (by omega)).symm⟩
  have h2 := ext_all W W.length 0
  rw [sewTo, List.flatMap_singleton, Nat.zero_add] at h2
  rw [← h2]
  exact h
end
section
set_option maxHeartbeats 1000000
noncomputable def eqB (l : List Nat) : List Nat → Bool :=
  List.rec (motive := fun _ => List Nat → Bool) (fun r => List.rec (motive := fun _ => Bool) true (fun _ _ _ => false) r)
    (fun x _ ih r => List.rec (motive := fun _ => Bool) false (fun y ys _ => cond (Nat.beq x y) (ih ys) false) r) l
noncomputable def appB (l r : List Nat) : List Nat := List.rec (motive := fun _ => List Nat) r (fun x _ ih => x :: ih) l
noncomputable def sumNB (f : Nat → Nat) (n : Nat) : Nat := Nat.rec (motive := fun _ => Nat) 0 (fun k ih => Nat.add ih (f k)) n
noncomputable def drpB (n : Nat) : List Nat → List Nat := Nat.rec (motive := fun _ => List Nat → List Nat) (fun l => l) (fun _ ih l => List.rec (motive := fun _ => List Nat) [] (fun _ xs _ => ih xs) l) n
noncomputable def tkeB (n : Nat) : List Nat → List Nat := Nat.rec (motive := fun _ => List Nat → List Nat) (fun _ => []) (fun _ ih l => List.rec (motive := fun _ => List Nat) [] (fun x xs _ => x :: ih xs) l) n
noncomputable def cutB (back rest : List Nat) (half j i : Nat) : Nat :=
  cond (eqB (appB (drpB (Nat.sub half i) back) (appB (tkeB (Nat.sub j i) (drpB (Nat.sub half j) back)) (tkeB (Nat.sub half j) back))) rest)
    (cond (Nat.ble 1 i) (cond (Nat.ble (Nat.succ i) j) (cond (Nat.ble (Nat.succ j) half) 2 1) 1) 1) 0
noncomputable def cutsB (half : Nat) (cs : List Nat) : Nat :=
  sumNB (fun t => (fun (tn : List Nat) => (fun (back rest : List Nat) => sumNB (fun j => sumNB (cutB back rest half j) (Nat.succ j)) (Nat.succ half)) (backOf (tkeB half tn)) (drpB half tn)) (appB (drpB t cs) (tkeB t cs))) half
theorem eq_same : ∀ (l r : List Nat), eqB l r = decide (l = r)
  | [], [] => by simp [eqB]
  | [], y :: ys => by simp [eqB]
  | x :: xs, [] => by simp [eqB]
  | x :: xs, y :: ys => by
    show cond (Nat.beq x y) (eqB xs ys) false = _
    rw [eq_same xs ys]
    cases h : Nat.beq x y with
    | true => simp [Nat.eq_of_beq_eq_true h]
    | false =>
      have h1 : x ≠ y := fun e => by rw [e, Nat.beq_refl] at h; cases h
      simp [h1]
theorem app_same : ∀ (l r : List Nat), appB l r = l ++ r
  | [], _ => rfl
  | x :: l, r => congrArg (x :: ·) (app_same l r)
theorem sumN_same (f : Nat → Nat) : ∀ n, sumNB f n = sumTo f n
  | 0 => rfl
  | n + 1 => congrArg (· + f n) (sumN_same f n)
theorem drp_same : ∀ (n : Nat) (l : List Nat), drpB n l = l.drop n
  | 0, _ => rfl
  | n + 1, [] => rfl
  | n + 1, _ :: l => drp_same n l
theorem tke_same : ∀ (n : Nat) (l : List Nat), tkeB n l = l.take n
  | 0, _ => rfl
  | n + 1, [] => rfl
  | n + 1, x :: l => congrArg (x :: ·) (tke_same n l)
theorem cut_same (back rest : List Nat) (half j i : Nat) : cutB back rest half j i = cutAt back rest half j i := by
  unfold cutB cutAt
  rw [eq_same, app_same, app_same, drp_same, drp_same, tke_same, tke_same, List.append_assoc]
  show cond (decide (List.drop (half - i) back ++ (List.take (j - i) (List.drop (half - j) back) ++ List.take (half - j) back) = rest)) (cond (Nat.ble 1 i) (cond (Nat.ble (i + 1) j) (cond (Nat.ble (j + 1) half) 2 1) 1) 1) 0 = _
  by_cases h : List.drop (half - i) back ++ (List.take (j - i) (List.drop (half - j) back) ++ List.take (half - j) back) = rest
  · rw [if_pos h, decide_eq_true h]
    show cond (Nat.ble 1 i) (cond (Nat.ble (i + 1) j) (cond (Nat.ble (j + 1) half) 2 1) 1) 1 = _
    have hb : ∀ a b : Nat, Nat.ble a b = decide (a ≤ b) := fun a b => by rw [Bool.eq_iff_iff, Nat.ble_eq, decide_eq_true_iff]
    rw [hb, hb, hb]
    by_cases h1 : 1 ≤ i
    · by_cases h2 : i + 1 ≤ j
      · by_cases h3 : j + 1 ≤ half
        · rw [if_pos (by omega)]
          simp [h1, h2, h3]
        · rw [if_neg (by omega)]
          simp [h1, h2, h3]
      · rw [if_neg (by omega)]
        simp [h1, h2]
    · rw [if_neg (by omega)]
      simp [h1]
  · rw [if_neg h, decide_eq_false h]
    rfl
theorem cuts_same {half : Nat} {cs : List Nat} (h : cs.length = 2 * half) : cutsB half cs = cuts cs := by
  unfold cuts cutsB
  rw [show cs.length / 2 = half by omega, sumN_same]
  congr 1
  funext t
  show sumNB (fun j => sumNB (cutB (backOf (tkeB half (appB (drpB t cs) (tkeB t cs)))) (drpB half (appB (drpB t cs) (tkeB t cs))) half j) (j + 1)) (half + 1) = _
  rw [app_same, drp_same, drp_same, tke_same, tke_same, sumN_same]
  unfold cutsT turnAt
  congr 1
  funext j
  rw [sumN_same]
  congr 1
  funext i
  exact cut_same _ _ _ _ _
/-- the counts by 1 and 2, and the bound, of one word -/
noncomputable def okB (k ways : Nat) (w : List Nat) : Bool :=
  (fun c => cond (Nat.beq (tallyB k w) (Nat.add (Nat.mul 1000 ways) c)) (Nat.ble c 999) false) (Nat.div (cutsB k w) 6)
noncomputable def headB (c : Nat) (w : List Nat) : Bool := List.rec (motive := fun _ => Bool) false (fun x _ _ => Nat.beq x c) w
noncomputable def lastB (c : Nat) (w : List Nat) : Bool := List.rec (motive := fun _ => Bool) false (fun x xs ih => List.rec (motive := fun _ => Bool) (Nat.beq x c) (fun _ _ _ => ih) xs) w
noncomputable def cycB (w : List Nat) : Bool := List.rec (motive := fun _ => Bool) false (fun x xs _ => lastB (mate x) (x :: xs)) w
noncomputable def andB (a b : Bool) : Bool := cond a b false
noncomputable def chkB (k ways : Nat) (j : Nat) : Nat → Nat → Nat → Nat → List Nat → Bool :=
  Nat.rec (motive := fun _ => Nat → Nat → Nat → Nat → List Nat → Bool)
    (fun _ _ _ _ w => cond (cycB w) true (okB k ways w))
    (fun _ ih p P q Q w =>
      andB (cond (Nat.beq p 0) true (cond (headB 65 w) true (ih (Nat.pred p) P q Q (97 :: w))))
      (andB (cond (Nat.beq P 0) true (cond (headB 97 w) true (ih p (Nat.pred P) q Q (65 :: w))))
      (andB (cond (Nat.beq q 0) true (cond (headB 66 w) true (ih p P (Nat.pred q) Q (98 :: w))))
      (cond (Nat.beq Q 0) true (cond (headB 98 w) true (ih p P q (Nat.pred Q) (66 :: w))))))) j
theorem last_cyc {w : List Nat} {c : Nat} (h : lastB c w = true) : w ≠ [] ∧ c = w.getD (w.length - 1) 0 := by
  induction w with
  | nil => cases h
  | cons x xs ih =>
    refine ⟨List.cons_ne_nil _ _, ?_⟩
    cases xs with
    | nil => exact (Nat.eq_of_beq_eq_true h).symm
    | cons y ys =>
      have h2 := (ih h).2
      rw [h2]
      simp [List.getD_eq_getElem?_getD]
theorem cyc_true {w : List Nat} (h : cycB w = true) : w ≠ [] ∧ mate (w.getD 0 0) = w.getD (w.length - 1) 0 := by
  cases w with
  | nil => cases h
  | cons x xs => exact last_cyc (c := mate x) h
theorem head_rd {c d : Nat} {u w : List Nat} (h : headB d w = true) (hd9 : d = mate c) (hr : Rd (u ++ c :: w)) : False := by
  cases w with
  | nil => cases h
  | cons x xs =>
    have hx : x = d := Nat.eq_of_beq_eq_true h
    exact (rd_iff.1 hr) u.length c x (by simp) (by simp [List.getElem?_append_right]) (hx.trans hd9)
theorem and_true {a b : Bool} (h : andB a b = true) : a = true ∧ b = true := by
  cases a
  · cases h
  · exact ⟨rfl, h⟩
theorem cond_out {n : Nat} {a b : Bool} (h : cond (Nat.beq n 0) true (cond a true b) = true) (hn : n ≠ 0) (ha : a = true → False) : b = true := by
  cases e : Nat.beq n 0 with
  | true => exact absurd (Nat.eq_of_beq_eq_true e) hn
  | false =>
    rw [e] at h
    cases a with
    | true => exact (ha rfl).elim
    | false => exact h
theorem chk_sound (k ways : Nat) : ∀ (j p P q Q : Nat) (w : List Nat), chkB k ways j p P q Q w = true → ∀ u : List Nat, u.length = j → Letters u → u.count 97 = p → u.count 65 = P → u.count 98 = q → u.count 66 = Q → Rd (u ++ w) → ¬ (u ++ w ≠ [] ∧ mate ((u ++ w).getD 0 0) = (u ++ w).getD ((u ++ w).length - 1) 0) → okB k ways (u ++ w) = true
  | 0, p, P, q, Q, w, h, u, hu, hL, h1, h2, h3, h4, hr, hc => by
    have hu0 : u = [] := List.length_eq_zero_iff.1 hu
    subst hu0
    rw [List.nil_append] at hc ⊢
    have h' : cond (cycB w) true (okB k ways w) = true := h
    cases e : cycB w with
    | true => exact absurd (cyc_true e) hc
    | false => rw [e] at h'; exact h'
  | j + 1, p, P, q, Q, w, h, u, hu, hL, h1, h2, h3, h4, hr, hc => by
    obtain ⟨u', c, rfl⟩ : ∃ u' c, u = u' ++ [c] := by
      rcases List.eq_nil_or_concat u with e | ⟨u', c, e⟩
      · rw [e] at hu
        cases hu
      · exact ⟨u', c, by simpa using e⟩
    have hL' : Letters u' := fun x hx => hL x (List.mem_append_left _ hx)
    have hu' : u'.length = j := by simpa using hu
    rw [List.append_assoc, List.singleton_append] at hr hc ⊢
    have hc4 : Lt c := hL c (by simp)
    rw [List.count_append] at h1 h2 h3 h4
    have hh : andB _ (andB _ (andB _ _)) = true := h
    obtain ⟨e1, hh⟩ := and_true hh
    obtain ⟨e2, hh⟩ := and_true hh
    obtain ⟨e3, e4⟩ := and_true hh
    rcases hc4 with rfl | rfl | rfl | rfl
    · have hb := cond_out e1 (by simp at h1; omega) (fun e => head_rd e (by rfl) hr)
      exact chk_sound k ways j _ _ _ _ _ hb u' hu' hL' (by simp at h1; simp; omega) (by simpa using h2) (by simpa using h3) (by simpa using h4) hr hc
    · have hb := cond_out e2 (by simp at h2; omega) (fun e => head_rd e (by rfl) hr)
      exact chk_sound k ways j _ _ _ _ _ hb u' hu' hL' (by simpa using h1) (by simp at h2; simp; omega) (by simpa using h3) (by simpa using h4) hr hc
    · have hb := cond_out e3 (by simp at h3; omega) (fun e => head_rd e (by rfl) hr)
      exact chk_sound k ways j _ _ _ _ _ hb u' hu' hL' (by simpa using h1) (by simpa using h2) (by simp at h3; simp; omega) (by simpa using h4) hr hc
    · have hb := cond_out e4 (by simp at h4; omega) (fun e => head_rd e (by rfl) hr)
      exact chk_sound k ways j _ _ _ _ _ hb u' hu' hL' (by simpa using h1) (by simpa using h2) (by simpa using h3) (by simp at h4; simp; omega) hr hc
end
section
set_option maxHeartbeats 1000000
theorem chk_split {k ways j p P q Q : Nat} {w : List Nat} (h1 : p ≠ 0 → headB 65 w = false → chkB k ways j (Nat.pred p) P q Q (97 :: w) = true) (h2 : P ≠ 0 → headB 97 w = false → chkB k ways j p (Nat.pred P) q Q (65 :: w) = true)
    (h3 : q ≠ 0 → headB 66 w = false → chkB k ways j p P (Nat.pred q) Q (98 :: w) = true) (h4 : Q ≠ 0 → headB 98 w = false → chkB k ways j p P q (Nat.pred Q) (66 :: w) = true) : chkB k ways (j + 1) p P q Q w = true := by
  have one : ∀ (n : Nat) (a b : Bool), (n ≠ 0 → a = false → b = true) → cond (Nat.beq n 0) true (cond a true b) = true := fun n a b h => by
    cases e : Nat.beq n 0 with
    | true => rfl
    | false =>
      cases a with
      | true => rfl
      | false => exact h (fun e2 => by rw [e2] at e; cases e) rfl
  show andB (cond (Nat.beq p 0) true (cond (headB 65 w) true (chkB k ways j (Nat.pred p) P q Q (97 :: w)))) (andB (cond (Nat.beq P 0) true (cond (headB 97 w) true (chkB k ways j p (Nat.pred P) q Q (65 :: w)))) (andB (cond (Nat.beq q 0) true (cond (headB 66 w) true (chkB k ways j p P (Nat.pred q) Q (98 :: w)))) (cond (Nat.beq Q 0) true (cond (headB 98 w) true (chkB k ways j p P q (Nat.pred Q) (66 :: w)))))) = true
  rw [one _ _ _ h1, one _ _ _ h2, one _ _ _ h3, one _ _ _ h4]
  rfl
theorem c10 : chkB 1 1 2 0 0 1 1 [] = true ∧ chkB 1 1 2 1 1 0 0 [] = true := by decide +kernel
theorem c20 : chkB 2 2 4 0 0 2 2 [] = true ∧ chkB 2 1 4 1 1 1 1 [] = true ∧ chkB 2 2 4 2 2 0 0 [] = true := by decide +kernel
theorem c30 : chkB 3 6 6 0 0 3 3 [] = true ∧ chkB 3 2 6 1 1 2 2 [] = true ∧ chkB 3 2 6 2 2 1 1 [] = true ∧ chkB 3 6 6 3 3 0 0 [] = true := by decide +kernel
theorem c40 : chkB 4 24 8 0 0 4 4 [] = true ∧ chkB 4 6 8 1 1 3 3 [] = true ∧ chkB 4 4 8 2 2 2 2 [] = true ∧ chkB 4 6 8 3 3 1 1 [] = true ∧ chkB 4 24 8 4 4 0 0 [] = true := by decide +kernel
theorem c50 : chkB 5 120 10 0 0 5 5 [] = true ∧ chkB 5 24 10 1 1 4 4 [] = true ∧ chkB 5 24 10 4 4 1 1 [] = true ∧ chkB 5 120 10 5 5 0 0 [] = true := by decide +kernel
theorem c52aa : chkB 5 12 8 0 2 3 3 [97, 97] = true := by decide +kernel
theorem c52ab : chkB 5 12 8 1 2 2 3 [98, 97] = true := by decide +kernel
theorem c52aB : chkB 5 12 8 1 2 3 2 [66, 97] = true := by decide +kernel
theorem c52AA : chkB 5 12 8 2 0 3 3 [65, 65] = true := by decide +kernel
theorem c52Ab : chkB 5 12 8 2 1 2 3 [98, 65] = true := by decide +kernel
theorem c52AB : chkB 5 12 8 2 1 3 2 [66, 65] = true := by decide +kernel
theorem c52ba : chkB 5 12 8 1 2 2 3 [97, 98] = true := by decide +kernel
theorem c52bA : chkB 5 12 8 2 1 2 3 [65, 98] = true := by decide +kernel
theorem c52bb : chkB 5 12 8 2 2 1 3 [98, 98] = true := by decide +kernel
theorem c52Ba : chkB 5 12 8 1 2 3 2 [97, 66] = true := by decide +kernel
theorem c52BA : chkB 5 12 8 2 1 3 2 [65, 66] = true := by decide +kernel
theorem c52BB : chkB 5 12 8 2 2 3 1 [66, 66] = true := by decide +kernel
theorem c52a : chkB 5 12 9 1 2 3 3 [97] = true := chk_split (fun _ _ => c52aa) (fun _ h => nomatch h) (fun _ _ => c52ab) (fun _ _ => c52aB)
theorem c52A : chkB 5 12 9 2 1 3 3 [65] = true := chk_split (fun _ h => nomatch h) (fun _ _ => c52AA) (fun _ _ => c52Ab) (fun _ _ => c52AB)
theorem c52b : chkB 5 12 9 2 2 2 3 [98] = true := chk_split (fun _ _ => c52ba) (fun _ _ => c52bA) (fun _ _ => c52bb) (fun _ h => nomatch h)
theorem c52B : chkB 5 12 9 2 2 3 2 [66] = true := chk_split (fun _ _ => c52Ba) (fun _ _ => c52BA) (fun _ h => nomatch h) (fun _ _ => c52BB)
theorem c52 : chkB 5 12 10 2 2 3 3 [] = true := chk_split (fun _ _ => c52a) (fun _ _ => c52A) (fun _ _ => c52b) (fun _ _ => c52B)
theorem c53aa : chkB 5 12 8 1 3 2 2 [97, 97] = true := by decide +kernel
theorem c53ab : chkB 5 12 8 2 3 1 2 [98, 97] = true := by decide +kernel
theorem c53aB : chkB 5 12 8 2 3 2 1 [66, 97] = true := by decide +kernel
theorem c53AA : chkB 5 12 8 3 1 2 2 [65, 65] = true := by decide +kernel
theorem c53Ab : chkB 5 12 8 3 2 1 2 [98, 65] = true := by decide +kernel
theorem c53AB : chkB 5 12 8 3 2 2 1 [66, 65] = true := by decide +kernel
theorem c53ba : chkB 5 12 8 2 3 1 2 [97, 98] = true := by decide +kernel
theorem c53bA : chkB 5 12 8 3 2 1 2 [65, 98] = true := by decide +kernel
theorem c53bb : chkB 5 12 8 3 3 0 2 [98, 98] = true := by decide +kernel
theorem c53Ba : chkB 5 12 8 2 3 2 1 [97, 66] = true := by decide +kernel
theorem c53BA : chkB 5 12 8 3 2 2 1 [65, 66] = true := by decide +kernel
theorem c53BB : chkB 5 12 8 3 3 2 0 [66, 66] = true := by decide +kernel
theorem c53a : chkB 5 12 9 2 3 2 2 [97] = true := chk_split (fun _ _ => c53aa) (fun _ h => nomatch h) (fun _ _ => c53ab) (fun _ _ => c53aB)
theorem c53A : chkB 5 12 9 3 2 2 2 [65] = true := chk_split (fun _ h => nomatch h) (fun _ _ => c53AA) (fun _ _ => c53Ab) (fun _ _ => c53AB)
theorem c53b : chkB 5 12 9 3 3 1 2 [98] = true := chk_split (fun _ _ => c53ba) (fun _ _ => c53bA) (fun _ _ => c53bb) (fun _ h => nomatch h)
theorem c53B : chkB 5 12 9 3 3 2 1 [66] = true := chk_split (fun _ _ => c53Ba) (fun _ _ => c53BA) (fun _ h => nomatch h) (fun _ _ => c53BB)
theorem c53 : chkB 5 12 10 3 3 2 2 [] = true := chk_split (fun _ _ => c53a) (fun _ _ => c53A) (fun _ _ => c53b) (fun _ _ => c53B)
end
section
set_option maxHeartbeats 1000000
noncomputable def BookOk (W : List Nat) (b : Bk) : Prop := b.1 = (dueOf W).1 ∧ b.2.1 = (dueOf W).2.1 ∧ b.2.2.1 = (dueOf W).2.2.1 ∧ b.2.2.2.1 = (dueOf W).2.2.2.1 ∧ b.2.2.2.2.length = (dueOf W).2.2.2.2.length ∧ (∀ p ∈ b.2.2.2.2, getT (dueOf W).2.2.2.2 p.1 = some p.2) ∧ (b.2.2.2.2.map (·.2)).sum = b.1
theorem tab_ok : ∀ p q : Nat, 1 ≤ p → 1 ≤ q → p + q ≤ 5 → chkB (p + q) (factN p * factN q) (2 * (p + q)) p p q q [] = true
  | 1, 1, _, _, _ => c20.2.1
  | 1, 2, _, _, _ => c30.2.1
  | 2, 1, _, _, _ => c30.2.2.1
  | 1, 3, _, _, _ => c40.2.1
  | 2, 2, _, _, _ => c40.2.2.1
  | 3, 1, _, _, _ => c40.2.2.2.1
  | 1, 4, _, _, _ => c50.2.1
  | 2, 3, _, _, _ => c52
  | 3, 2, _, _, _ => c53
  | 4, 1, _, _, _ => c50.2.2.1
  | 0, _, h, _, _ => absurd h (by omega)
  | _, 0, _, h, _ => absurd h (by omega)
  | p + 5, q + 1, _, _, h => absurd h (by omega)
  | p + 1, q + 5, _, _, h => absurd h (by omega)
  | 2, q + 4, _, _, h => absurd h (by omega)
  | 3, q + 3, _, _, h => absurd h (by omega)
  | 4, q + 2, _, _, h => absurd h (by omega)
theorem tab_no0 : (chkB 1 0 2 0 0 1 1 [] && chkB 1 0 2 1 1 0 0 [] && chkB 2 0 4 0 0 2 2 [] && chkB 2 0 4 2 2 0 0 [] && chkB 3 0 6 0 0 3 3 [] && chkB 3 0 6 3 3 0 0 [] && chkB 4 0 8 0 0 4 4 [] && chkB 4 0 8 4 4 0 0 [] && chkB 5 0 10 0 0 5 5 [] && chkB 5 0 10 5 5 0 0 []) = true := by decide +kernel
theorem tab_no1 : (chkB 1 1 2 0 0 1 1 [] && chkB 1 1 2 1 1 0 0 [] && chkB 2 1 4 0 0 2 2 [] && chkB 2 1 4 2 2 0 0 [] && chkB 3 1 6 0 0 3 3 [] && chkB 3 1 6 3 3 0 0 [] && chkB 4 1 8 0 0 4 4 [] && chkB 4 1 8 4 4 0 0 [] && chkB 5 1 10 0 0 5 5 [] && chkB 5 1 10 5 5 0 0 []) = true := by decide +kernel
theorem ands {a b : Bool} (h : (a && b) = true) : a = true ∧ b = true := by
  cases a
  · cases h
  · exact ⟨rfl, h⟩
theorem tab_no : ∀ p q : Nat, p = 0 ∨ q = 0 → 1 ≤ p + q → p + q ≤ 5 → chkB (p + q) 0 (2 * (p + q)) p p q q [] = true ∧ chkB (p + q) 1 (2 * (p + q)) p p q q [] = true := by
  obtain ⟨h0, a55⟩ := ands tab_no0
  obtain ⟨h0, a50⟩ := ands h0
  obtain ⟨h0, a44⟩ := ands h0
  obtain ⟨h0, a40⟩ := ands h0
  obtain ⟨h0, a33⟩ := ands h0
  obtain ⟨h0, a30⟩ := ands h0
  obtain ⟨h0, a22⟩ := ands h0
  obtain ⟨h0, a20⟩ := ands h0
  obtain ⟨a10, a11⟩ := ands h0
  obtain ⟨h0, b55⟩ := ands tab_no1
  obtain ⟨h0, b50⟩ := ands h0
  obtain ⟨h0, b44⟩ := ands h0
  obtain ⟨h0, b40⟩ := ands h0
  obtain ⟨h0, b33⟩ := ands h0
  obtain ⟨h0, b30⟩ := ands h0
  obtain ⟨h0, b22⟩ := ands h0
  obtain ⟨h0, b20⟩ := ands h0
  obtain ⟨b10, b11⟩ := ands h0
  exact fun p q => match p, q with
  | 0, 0 => fun _ h _ => absurd h (by omega)
  | 0, 1 => fun _ _ _ => ⟨a10, b10⟩
  | 1, 0 => fun _ _ _ => ⟨a11, b11⟩
  | 0, 2 => fun _ _ _ => ⟨a20, b20⟩
  | 2, 0 => fun _ _ _ => ⟨a22, b22⟩
  | 0, 3 => fun _ _ _ => ⟨a30, b30⟩
  | 3, 0 => fun _ _ _ => ⟨a33, b33⟩
  | 0, 4 => fun _ _ _ => ⟨a40, b40⟩
  | 4, 0 => fun _ _ _ => ⟨a44, b44⟩
  | 0, 5 => fun _ _ _ => ⟨a50, b50⟩
  | 5, 0 => fun _ _ _ => ⟨a55, b55⟩
  | 0, q + 6 => fun _ _ h => absurd h (by omega)
  | p + 6, _ => fun _ _ h => absurd h (by omega)
  | p + 1, q + 1 => fun h _ _ => absurd h (by omega)
theorem okB_out {k ways : Nat} {w : List Nat} (h : okB k ways w = true) : tallyB k w = 1000 * ways + cutsB k w / 6 ∧ cutsB k w / 6 ≤ 999 := by
  have h' : cond (Nat.beq (tallyB k w) (1000 * ways + cutsB k w / 6)) (Nat.ble (cutsB k w / 6) 999) false = true := h
  cases e : Nat.beq (tallyB k w) (1000 * ways + cutsB k w / 6) with
  | false => rw [e] at h'; cases h'
  | true =>
    rw [e] at h'
    exact ⟨Nat.eq_of_beq_eq_true e, Nat.le_of_ble_eq_true h'⟩
theorem fact_le : ∀ p q : Nat, 1 ≤ p → 1 ≤ q → p + q ≤ 5 → factN p * factN q ≤ 24 := by
  intro p q h1 h2 h3
  have hp : p < 5 := by omega
  have hq : q < 5 := by omega
  exact (show ∀ p : Fin 5, ∀ q : Fin 5, 1 ≤ p.val → 1 ≤ q.val → p.val + q.val ≤ 5 → factN p * factN q ≤ 24 by decide) ⟨p, hp⟩ ⟨q, hq⟩ h1 h2 h3
theorem check_all {W : List Nat} (C : CoreOk W) (hne : W ≠ []) : tallyB (W.length / 2) W = 1000 * waysTo W 2 + cuts W / 6 ∧ cuts W / 6 ≤ 999 ∧ waysTo W 2 ≤ 24 := by
  have h4 := len_four W C.letters
  have ha := C.a
  have hb := C.b
  have hlen := C.len
  have hpos : 0 < W.length := List.length_pos_iff.2 hne
  obtain ⟨p, hp⟩ : ∃ p, p = W.count 97 := ⟨_, rfl⟩
  obtain ⟨q, hq⟩ : ∃ q, q = W.count 98 := ⟨_, rfl⟩
  have hl : W.length = 2 * (p + q) := by omega
  have S : ∀ ways, chkB (p + q) ways (2 * (p + q)) p p q q [] = true → okB (p + q) ways W = true := fun ways h => by
    have h1 := chk_sound (p + q) ways (2 * (p + q)) p p q q [] h W hl C.letters hp.symm (by omega) hq.symm (by omega) (by rw [List.append_nil]; exact C.rd) (by rw [List.append_nil]; exact C.cyc)
    rwa [List.append_nil] at h1
  rw [show W.length / 2 = p + q by omega]
  rw [← cuts_same hl]
  show _ = 1000 * (factN (W.count 97) * factN (W.count 98)) + _ ∧ _ ∧ factN (W.count 97) * factN (W.count 98) ≤ 24
  rw [← hp, ← hq]
  by_cases h0 : p = 0 ∨ q = 0
  · have hn := tab_no p q h0 (by omega) (by omega)
    have e1 := okB_out (S _ hn.1)
    have e2 := okB_out (S _ hn.2)
    omega
  · have h1 := okB_out (S _ (tab_ok p q (by omega) (by omega) (by omega)))
    exact ⟨h1.1, h1.2, fact_le p q (by omega) (by omega) (by omega)⟩
/-- the books after so many rows of each kind -/
structure BkIs (k : Nat) (b : Bk) (n1 n2 : Nat) : Prop where
  all : b.1 = (n1 : Int) + n2
  corn : b.2.1 = ((n1 : Int) + n2) * (k + 1) - 2 * ((n1 : Int) + 2 * n2)
  hand : b.2.2.1 = (n1 : Int) + 2 * n2
  sq : b.2.2.2.1 = (n1 : Int) + 4 * n2
  tab : (n1 = 0 ∧ n2 = 0 ∧ b.2.2.2.2 = []) ∨ (0 < n1 ∧ n2 = 0 ∧ b.2.2.2.2 = [(1, (n1 : Int))]) ∨ (n1 = 0 ∧ 0 < n2 ∧ b.2.2.2.2 = [(2, (n2 : Int))]) ∨ (0 < n1 ∧ 0 < n2 ∧ (b.2.2.2.2 = [(1, (n1 : Int)), (2, (n2 : Int))] ∨ b.2.2.2.2 = [(2, (n2 : Int)), (1, (n1 : Int))]))
theorem gB_out (k c : Nat) : (c + 1 = k ∧ gB k c = 1001) ∨ (c + 3 = k ∧ gB k c = 1000) ∨ gB k c = 1000000 := by
  have h : gB k c = cond (Nat.beq (c + 1) k) 1001 (cond (Nat.beq (c + 3) k) 1000 1000000) := rfl
  rw [h]
  cases e1 : Nat.beq (c + 1) k with
  | true => exact .inl ⟨Nat.eq_of_beq_eq_true e1, rfl⟩
  | false =>
    cases e2 : Nat.beq (c + 3) k with
    | true => exact .inr (.inl ⟨Nat.eq_of_beq_eq_true e2, rfl⟩)
    | false => exact .inr (.inr rfl)
theorem hand_one {n k c : Nat} (hn : n = 2 * k) (h : c + 1 = k) : handlesOf n c = 1 := by
  subst h hn
  unfold handlesOf
  rw [Int.fdiv_eq_ediv_of_nonneg _ (by omega), Int.fdiv_eq_ediv_of_nonneg _ (by omega)]
  omega
theorem hand_two {n k c : Nat} (hn : n = 2 * k) (h : c + 3 = k) : handlesOf n c = 2 := by
  subst h hn
  unfold handlesOf
  rw [Int.fdiv_eq_ediv_of_nonneg _ (by omega), Int.fdiv_eq_ediv_of_nonneg _ (by omega)]
  omega
theorem bk_one {n k : Nat} {b : Bk} {n1 n2 : Nat} {row : List Nat} (hn : n = 2 * k) (h : corners (msOf row) + 1 = k) (B : BkIs k b n1 n2) : BkIs k (bookStep n b row) (n1 + 1) n2 := by
  obtain ⟨b1, b2, b3, b4, b5⟩ := b
  obtain ⟨h1, h2, h3, h4, h5⟩ := B
  dsimp only at h1 h2 h3 h4 h5
  unfold bookStep
  rw [hand_one hn h]
  have hc : (corners (msOf row) : Int) = k - 1 := by omega
  rw [hc]
  refine ⟨?_, ?_, ?_, ?_, ?_⟩
  · show 1 + b1 = _
    omega
  · show ((k : Int) - 1) + b2 = _
    rw [h2]
    rw [show (((n1 + 1 : Nat) : Int) + n2) * ((k : Int) + 1) = ((n1 : Int) + n2) * ((k : Int) + 1) + ((k : Int) + 1) by rw [show (((n1 + 1 : Nat) : Int) + n2) = ((n1 : Int) + n2) + 1 by omega, Int.add_mul, Int.one_mul]]
    generalize ((n1 : Int) + n2) * ((k : Int) + 1) = A
    omega
  · show 1 + b3 = _
    omega
  · show 1 * 1 + b4 = _
    omega
  · dsimp only
    rcases h5 with ⟨e1, e2, e⟩ | ⟨e1, e2, e⟩ | ⟨e1, e2, e⟩ | ⟨e1, e2, e | e⟩ <;> subst e
    · subst e1
      exact .inr (.inl ⟨by omega, e2, rfl⟩)
    · exact .inr (.inl ⟨by omega, e2, rfl⟩)
    · subst e1
      exact .inr (.inr (.inr ⟨by omega, e2, .inr rfl⟩))
    · exact .inr (.inr (.inr ⟨by omega, e2, .inl rfl⟩))
    · exact .inr (.inr (.inr ⟨by omega, e2, .inr rfl⟩))
theorem bk_two {n k : Nat} {b : Bk} {n1 n2 : Nat} {row : List Nat} (hn : n = 2 * k) (h : corners (msOf row) + 3 = k) (B : BkIs k b n1 n2) : BkIs k (bookStep n b row) n1 (n2 + 1) := by
  obtain ⟨b1, b2, b3, b4, b5⟩ := b
  obtain ⟨h1, h2, h3, h4, h5⟩ := B
  dsimp only at h1 h2 h3 h4 h5
  unfold bookStep
  rw [hand_two hn h]
  have hc : (corners (msOf row) : Int) = k - 3 := by omega
  rw [hc]
  refine ⟨?_, ?_, ?_, ?_, ?_⟩
  · show 1 + b1 = _
    omega
  · show ((k : Int) - 3) + b2 = _
    rw [h2]
    rw [show ((n1 : Int) + (n2 + 1 : Nat)) * ((k : Int) + 1) = ((n1 : Int) + n2) * ((k : Int) + 1) + ((k : Int) + 1) by rw [show ((n1 : Int) + (n2 + 1 : Nat)) = ((n1 : Int) + n2) + 1 by omega, Int.add_mul, Int.one_mul]]
    generalize ((n1 : Int) + n2) * ((k : Int) + 1) = A
    omega
  · show 2 + b3 = _
    omega
  · show 2 * 2 + b4 = _
    omega
  · dsimp only
    rcases h5 with ⟨e1, e2, e⟩ | ⟨e1, e2, e⟩ | ⟨e1, e2, e⟩ | ⟨e1, e2, e | e⟩ <;> subst e
    · subst e2
      exact .inr (.inr (.inl ⟨e1, by omega, rfl⟩))
    · subst e2
      exact .inr (.inr (.inr ⟨e1, by omega, .inl rfl⟩))
    · exact .inr (.inr (.inl ⟨e1, by omega, rfl⟩))
    · exact .inr (.inr (.inr ⟨e1, by omega, .inl rfl⟩))
    · exact .inr (.inr (.inr ⟨e1, by omega, .inr rfl⟩))
theorem book_count {n k : Nat} (hn : n = 2 * k) : ∀ (rows : List (List Nat)) (b : Bk) (n1 n2 : Nat), BkIs k b n1 n2 → (rows.map (GR k)).sum < 1000000 → ∃ m1 m2, BkIs k (rows.foldl (bookStep n) b) (n1 + m1) (n2 + m2) ∧ (rows.map (GR k)).sum = 1001 * m1 + 1000 * m2 ∧ rows.length = m1 + m2
  | [], b, n1, n2, B, _ => ⟨0, 0, B, rfl, rfl⟩
  | row :: rows, b, n1, n2, B, h => by
    rw [List.map_cons, List.sum_cons] at h
    have hg : GR k row = gB k (corners (msOf row)) := rfl
    rcases gB_out k (corners (msOf row)) with ⟨e, e2⟩ | ⟨e, e2⟩ | e2
    · obtain ⟨m1, m2, B', h1, h2⟩ := book_count hn rows _ _ _ (bk_one hn e B) (by omega)
      refine ⟨m1 + 1, m2, ?_, ?_, ?_⟩
      · rw [show n1 + (m1 + 1) = n1 + 1 + m1 by omega]
        exact B'
      · rw [List.map_cons, List.sum_cons]
        omega
      · rw [List.length_cons]
        omega
    · obtain ⟨m1, m2, B', h1, h2⟩ := book_count hn rows _ _ _ (bk_two hn e B) (by omega)
      refine ⟨m1, m2 + 1, ?_, ?_, ?_⟩
      · rw [show n2 + (m2 + 1) = n2 + 1 + m2 by omega]
        exact B'
      · rw [List.map_cons, List.sum_cons]
        omega
      · rw [List.length_cons]
        omega
    · omega
theorem core_count {W : List Nat} (C : CoreOk W) (hne : W ≠ []) : ∃ m1 m2, BkIs (W.length / 2) (bookOf W.length (sewTo W W.length)) m1 m2 ∧ (sewTo W W.length).length = waysTo W 2 ∧ m1 + m2 = waysTo W 2 ∧ m1 = cuts W / 6 ∧ waysTo W 2 ≤ 24 ∧ W.length = 2 * (W.length / 2) := by
  obtain ⟨h1, h2, h3⟩ := check_all C hne
  have h4 := len_four W C.letters
  have ha := C.a
  have hb := C.b
  have hlen := C.len
  have hpos : 0 < W.length := List.length_pos_iff.2 hne
  have hn : W.length = 2 * (W.length / 2) := by omega
  rw [tally_same C.letters (by omega) hpos] at h1
  obtain ⟨m1, m2, B, e1, e2⟩ := book_count hn (sewTo W W.length) (0, 0, 0, 0, []) 0 0 ⟨by rfl, by simp, by rfl, by rfl, .inl ⟨rfl, rfl, rfl⟩⟩ (by omega)
  rw [Nat.zero_add, Nat.zero_add] at B
  have e3 : m1 + m2 = waysTo W 2 := by omega
  exact ⟨m1, m2, B, by omega, e3, by omega, h3, hn⟩
theorem sew_few {cs : List Nat} (B : Bal cs 5) : (sewTo (coreW cs) (coreW cs).length).length ≤ 100 := by
  by_cases h : coreW cs = []
  · rw [h]
    show 1 ≤ 100
    omega
  · obtain ⟨m1, m2, _, e, _, _, e2, _⟩ := core_count (core_ok B) h
    omega
theorem book_ok {cs : List Nat} (B : Bal cs 5) : BookOk (coreW cs) (bookOf (coreW cs).length (sewTo (coreW cs) (coreW cs).length)) := by
  by_cases h : coreW cs = []
  · rw [h]
    unfold BookOk
    decide
  · obtain ⟨m1, m2, K, e, e1, e2, _, hn⟩ := core_count (core_ok B) h
    generalize coreW cs = W at *
    generalize bookOf W.length (sewTo W W.length) = b at *
    obtain ⟨b1, b2, b3, b4, b5⟩ := b
    obtain ⟨h1, h2, h3, h4, h5⟩ := K
    dsimp only at h1 h2 h3 h4 h5
    have hs : (cuts W : Int).fdiv 6 = (m1 : Int) := by
      rw [Int.fdiv_eq_ediv_of_nonneg _ (by omega)]
      omega
    have hl : (W.length : Int).fdiv 2 = ((W.length / 2 : Nat) : Int) := by
      rw [Int.fdiv_eq_ediv_of_nonneg _ (by omega)]
      omega
    have hw : (waysTo W 2 : Int) = (m1 : Int) + m2 := by omega
    have hdue : dueOf W = ((m1 : Int) + m2, ((m1 : Int) + m2) * ((W.length / 2 : Nat) + 1) - 2 * ((m1 : Int) + 2 * m2), (m1 : Int) + 2 * m2, (m1 : Int) + 4 * m2, dueTab m1 m2) := by
      unfold dueOf
      rw [if_neg h]
      dsimp only
      rw [hs, hl, hw, show (m1 : Int) + m2 - m1 = m2 by omega]
    rw [BookOk, hdue]
    refine ⟨h1, h2, h3, h4, ?_, ?_, ?_⟩
    · unfold dueTab
      rcases h5 with ⟨e1, e2, e⟩ | ⟨e1, e2, e⟩ | ⟨e1, e2, e⟩ | ⟨e1, e2, e | e⟩ <;> subst e <;> simp [e1, e2]
    · unfold dueTab getT
      rcases h5 with ⟨e1, e2, e⟩ | ⟨e1, e2, e⟩ | ⟨e1, e2, e⟩ | ⟨e1, e2, e | e⟩ <;> subst e <;> simp [e1, e2]
    · show (b5.map (·.2)).sum = b1
      rw [h1]
      rcases h5 with ⟨e1, e2, e⟩ | ⟨e1, e2, e⟩ | ⟨e1, e2, e⟩ | ⟨e1, e2, e | e⟩ <;> subst e <;> simp [e1, e2] <;> omega
end
theorem off_law : True := by
  w_top off
  trivial
section
local macro_rules | `(tactic| walk_at "my stop6") => `(tactic| (walk_at "my stop0"; (fail_if_success (with_reducible show wpAny _ _ (truthy (Value.bool _)) _ _ _)); (fail_if_success (with_reducible show wpAny _ _ (compareOp _ (Value.ref _) (Value.ref _)) _ _ _)); (fail_if_success (with_reducible show wpAny _ _ (compareOp _ (Value.bool _) (Value.bool _)) _ _ _))))
local macro_rules | `(tactic| walk_at "my upto6") => `(tactic| repeat' (first | (walk_at "my cut") | (k_unfold; (try dsimp only)) | (walk_at "my stop6"; walk1) | (walk_at "my stop6"; dsimp only; walk_at "my stop6"; walk1)))
local macro_rules | `(tactic| walk_at "my past6") => `(tactic| (walk1; (first | (k_unfold; (try dsimp only)) | skip)))
local macro_rules | `(tactic| walk_at "my stop7") => `(tactic| (walk_at "my stop0"; (fail_if_success (with_reducible show wpAny _ _ (truthy (Value.bool _)) _ _ _)); (fail_if_success (with_reducible show wpAny _ _ (compareOp _ _ _) _ _ _))))
local macro_rules | `(tactic| walk_at "my upto7") => `(tactic| repeat' (first | (walk_at "my cut") | (k_unfold; (try dsimp only)) | (walk_at "my stop7"; walk1) | (walk_at "my stop7"; dsimp only; walk_at "my stop7"; walk1)))
local macro_rules | `(tactic| walk_at "cut on") => `(tactic| skip)
theorem AccAt.keep1 {led led' : Led} {x dx : Addr} {cs : List Nat} (H : AccAt led x dx cs) (K : ∀ p ∈ led, p ∈ led') : AccAt led' x dx cs := AccAt.mono H K
theorem Tabs.mono {led led' : Led} (T : Tabs led) (K : ∀ p ∈ led, p ∈ led') : Tabs led' := by
  obtain ⟨ps, ps', a1, b1, a2, b2⟩ := T.out
  exact ⟨ps, ps', K _ a1, b1, K _ a2, b2⟩
theorem AccAt.but2 {h₀ h : Heap} {L r d : Addr} {led led' : Led} {cs : List Nat} (H : AccAt led r d cs) (N : News h₀ L h led) (HT : Tabs led) (K : ∀ p ∈ led, p.1 ≠ 63 → p.1 ≠ 70 → p ∈ led') : AccAt led' r d cs := by
  obtain ⟨ps, ps', a1, b1, a2, b2⟩ := HT.out
  have key : ∀ p ∈ led, p.2.cls ≠ .none → p ∈ led' := fun p hp hc => K p hp (News.ne N hp a2 hc) (News.ne N hp a1 hc)
  obtain ⟨vs, n, hsh, t, t', k, h1, h2, h3⟩ := H.out
  exact ⟨vs, n, hsh, t, t', k, key _ h1 (fun e => nomatch e), key _ h2 (fun e => nomatch e), h3.mono fun a vs n hp => key _ hp (fun e => nomatch e)⟩
theorem txt_empty (W : List Nat) : (txt W == Str.ofString "") = (W == []) := by
  rw [Bool.eq_iff_iff, beq_iff_eq, beq_iff_eq]
  constructor
  · intro h
    have h2 : (txt W).cps = #[] := (congrArg Str.cps h).trans (by rfl)
    simpa [txt] using h2
  · rintro rfl
    kernel_rfl
theorem ne_int_same {prog : Program} {w : World} {A : Around} {E : Value → Shared → Prop} {s : Shared} {a : Int} {t u : Tok} {Q : Value → Shared → Prop} (h : Q (.bool false) s) : wpAny (model prog w) A (compareOp .NotEq (.int a t) (.int a u)) Q E s :=
  PyProof.Rows.ne_int (by simpa using h)
theorem eq_int_same {prog : Program} {w : World} {A : Around} {E : Value → Shared → Prop} {s : Shared} {a : Int} {t u : Tok} {Q : Value → Shared → Prop} (h : Q (.bool true) s) : wpAny (model prog w) A (compareOp .Eq (.int a t) (.int a u)) Q E s :=
  PyProof.Rows.eq_int (by simpa using h)
theorem BookAt.mono {w : World} {led led' : Led} {a : Addr} {x1 x2 x3 x4 : Int} {ps : Tab} (B : BookAt w led a x1 x2 x3 x4 ps) (K : ∀ p ∈ led, p.2.cls = .type "tuple" ∨ p.2.cls = .type "dict" → p ∈ led') : BookAt w led' a x1 x2 x3 x4 ps := by
  obtain ⟨t1, t2, t3, t4, d, n, h1, ⟨o, kvs, h2, h3, h4⟩, h5⟩ := B
  refine ⟨t1, t2, t3, t4, d, n, K _ h1 (.inl rfl), ⟨o, kvs, K _ h2 (.inr ?_), h3, h4⟩, h5⟩
  obtain ⟨es, ep, e, _⟩ := h3
  exact e.1
theorem book_start {w : World} {h₀ h : Heap} {L T d : Addr} {led : Led} {o : Obj} {x1 x2 x3 x4 : Int} {t1 t2 t3 t4 : Tok} {n : Nat} (_ : News h₀ L h ((T, tupO [.int x1 t1, .int x2 t2, .int x3 t3, .int x4 t4, .ref d] n) :: (d, o) :: led)) (hD : o.IsDictOf (PySem.intKind PR w) []) (hs : (d == sysModules) = false) :
    BookAt w ((T, tupO [.int x1 t1, .int x2 t2, .int x3 t3, .int x4 t4, .ref d] n) :: (d, o) :: led) T x1 x2 x3 x4 [] :=
  ⟨_, _, _, _, _, _, List.mem_cons_self, ⟨_, _, List.mem_cons_of_mem _ List.mem_cons_self, hD, rfl, .nil⟩, hs⟩
theorem book_one {w : World} {h₀ h : Heap} {L T d : Addr} {led : Led} {o : Obj} {x1 x2 x3 x4 k x : Int} {t1 t2 t3 t4 t : Tok} {n : Nat} (_ : News h₀ L h ((T, tupO [.int x1 t1, .int x2 t2, .int x3 t3, .int x4 t4, .ref d] n) :: (d, o) :: led)) (hD : o.IsDictOf (PySem.intKind PR w) [(k, .int x t)]) (hs : (d == sysModules) = false) :
    BookAt w ((T, tupO [.int x1 t1, .int x2 t2, .int x3 t3, .int x4 t4, .ref d] n) :: (d, o) :: led) T x1 x2 x3 x4 [(k, x)] :=
  ⟨_, _, _, _, _, _, List.mem_cons_self, ⟨_, _, List.mem_cons_of_mem _ List.mem_cons_self, hD, rfl, .cons _ _ .nil⟩, hs⟩
theorem any_QE {M : Model} {A : Around} {l : List Stmt} {env : Env} {Q : Flow → Shared → Prop} {E : Value → Shared → Prop} {s : Shared} (h : ∀ (Q' : Flow → Shared → Prop) (E' : Value → Shared → Prop), (∀ v s, Q (.ret v) s → Q' (.ret v) s) → wpAny M A (execs l env) Q' E' s) : wpAny M A (execs l env) Q E s := h Q E fun _ _ h => h
@[elab_as_elim]
theorem o_ex1 {α : Type} {v : Value} {f : α → Value} {A : α → Prop} {M : Value → Prop} (H : ∃ a, v = f a ∧ A a) (k : ∀ a, A a → M (f a)) : M v := by
  obtain ⟨a, rfl, h⟩ := H
  exact k a h
@[elab_as_elim]
theorem o_ex2 {α β : Type} {v : Value} {f : α → β → Value} {A : α → β → Prop} {M : Value → Prop} (H : ∃ a b, v = f a b ∧ A a b) (k : ∀ a b, A a b → M (f a b)) : M v := by
  obtain ⟨a, b, rfl, h⟩ := H
  exact k a b h
@[elab_as_elim]
theorem o_ex3 {α β γ : Type} {v : Value} {f : α → β → γ → Value} {A : α → β → γ → Prop} {M : Value → Prop} (H : ∃ a b c, v = f a b c ∧ A a b c) (k : ∀ a b c, A a b c → M (f a b c)) : M v := by
  obtain ⟨a, b, c, rfl, h⟩ := H
  exact k a b c h
@[elab_as_elim]
theorem o_ex4 {α β γ δ : Type} {v : Value} {f : α → β → γ → δ → Value} {A : α → β → γ → δ → Prop} {M : Value → Prop} (H : ∃ a b c d, v = f a b c d ∧ A a b c d) (k : ∀ a b c d, A a b c d → M (f a b c d)) : M v := by
  obtain ⟨a, b, c, d, rfl, h⟩ := H
  exact k a b c d h
theorem book_open {P : Prop} {w : World} {led : Led} {a : Addr} {x1 x2 x3 x4 : Int} {ps : List (Int × Int)} (H : BookAt w led a x1 x2 x3 x4 ps)
    (k : ∀ t1 t2 t3 t4 d n, (a, tupO [.int x1 t1, .int x2 t2, .int x3 t3, .int x4 t4, .ref d] n) ∈ led → DictInt w led d ps → (d == sysModules) = false → P) : P := by
  obtain ⟨t1, t2, t3, t4, d, n, h1, h2, h3⟩ := H
  exact k t1 t2 t3 t4 d n h1 h2 h3
noncomputable abbrev lwI (w : World) (W : List Nat) (ne : Led) (i : Nat) (m₁ : Str → Option Value) (led₁ : Led) : Prop := ∃ ba, BookAt w led₁ ba (bookOf W.length ((sewTo W W.length).take i)).1 (bookOf W.length ((sewTo W W.length).take i)).2.1 (bookOf W.length ((sewTo W W.length).take i)).2.2.1 (bookOf W.length ((sewTo W W.length).take i)).2.2.2.1 (bookOf W.length ((sewTo W W.length).take i)).2.2.2.2 ∧ m₁ (Str.ofString "book") = some (.ref ba) ∧ (∃ t, m₁ (Str.ofString "word") = some (.str (txt W) t)) ∧ ∀ p ∈ ne, p ∈ led₁
theorem lwI_out {P : Prop} {w : World} {W : List Nat} {ne : Led} {i : Nat} {m₁ : Str → Option Value} {led₁ : Led} (H : lwI w W ne i m₁ led₁) (kk : ∀ ba, (BookAt w led₁ ba (bookOf W.length ((sewTo W W.length).take i)).1 (bookOf W.length ((sewTo W W.length).take i)).2.1 (bookOf W.length ((sewTo W W.length).take i)).2.2.1 (bookOf W.length ((sewTo W W.length).take i)).2.2.2.1 (bookOf W.length ((sewTo W W.length).take i)).2.2.2.2) → (m₁ (Str.ofString "book") = some (.ref ba)) → ∀ t, (m₁ (Str.ofString "word") = some (.str (txt W) t)) → (∀ p ∈ ne, p ∈ led₁) →  P) : P := by
  obtain ⟨z0, z1, z2, ⟨z3, z4⟩, z5⟩ := H
  exact kk z0 z1 z2 z3 z4 z5
theorem ints_ms {its : Array Value} {row : List Nat} (h : IntsAre its.toList (rowInts row)) (h1 : ∀ x ∈ row, 1 ≤ x) : IntsL its (msOf row) := by
  have hl := h.length
  simp at hl
  refine ⟨by simp [msOf, hl], fun i hi => ?_⟩
  simp [msOf] at hi
  have hx : its[i]? = some its[i] := Array.getElem?_eq_getElem (by omega)
  obtain ⟨x, t, e, hx2⟩ := ints_at2 h (j := i) (v := its[i]) (by simpa using hx)
  refine ⟨t, ?_⟩
  rw [hx, e]
  have hm := h1 row[i] (List.getElem_mem hi)
  simp [hi] at hx2
  simp [msOf, List.getD_eq_getElem?_getD, hi]
  omega
theorem corn_out_le (ms : List Nat) : ∀ (k : Nat) (f : List Bool) (r : Nat), cornOut ms k f r ≤ r + k
  | 0, _, _ => Nat.le_refl _
  | k + 1, f, r => by
    unfold cornOut
    split
    · have := corn_out_le ms k (cornIn ms ms.length f (f.findIdx id)) (r + 1)
      omega
    · omega
theorem corners_le (ms : List Nat) : corners ms ≤ ms.length := by
  have := corn_out_le ms ms.length (List.replicate ms.length true) 0
  unfold corners
  omega
theorem mem_of_N2 {h₀ h : Heap} {L : Addr} {p1 p2 : Addr × Obj} {led : Led} (_ : News h₀ L h (p1 :: p2 :: led)) : ∀ p ∈ led, p ∈ p1 :: p2 :: led := fun _ hp => List.mem_cons_of_mem _ (List.mem_cons_of_mem _ hp)
theorem top_t : PySem.Challenge.rw_zn0013_01.Holds := hd (by
  k_fill
  intro w s₀ s₁ mg mb G Y fa o pm cd doc dV kV ho hfd hcd hD hmg hg args vals as hpre hlay hrd hwl hlo
  have KX := km_in_of Y
  have hT8 := km_tabs_of Y
  have X := (Ground.X G).1
  have V := (Ground.X G).2
  refine Ground.open G ?_
  intro T B D TE TW
  try (refine guard_noD D (by decide +kernel) ?_; clear D)
  have hT9 : TabsAt tabs2 s₁.heap := List.forall_mem_cons.mpr ⟨⟨codeHd_of_K (c := 74) (P := 70) KX (by kernel_rfl), hT8 70 (by k_mem)⟩, List.forall_mem_cons.mpr ⟨⟨codeHd_of_K (c := 67) (P := 63) KX (by kernel_rfl), hT8 63 (by k_mem)⟩, fun _ h => nomatch h⟩⟩
  clear hmg
  wrow_args hpre hlay hrd hwl hlo
  all_goals (
    first | refine callC_kw (enter_call ?_) | refine enter_call ?_
    w_top on
    w_call any ho hfd hcd hD T F
    clear hfd)
  have eLO : ∀ v : Program, v = vw → looseW v [Str.ofString "_Accumulator"] ++ (recsOf v).map (·.name) ++ (litsOf v).map (·.1) ++ (clssOf v (looseW v [Str.ofString "_Accumulator"])).map (·.name) = LO := fun v e => by subst e; kernel_rfl
  have T' := ghost_top hT9 T
  rw [eLO _ rfl] at T'
  have X' := ghost_K hT9 KX (by kernel_rfl)
  have K' := ghost_below hT9
  rename News _ _ _ [] => N0
  have N' := ghost_news hT9 F N0
  have F' := ghost_fr hT9 F
  rename Heap.IsList _ _ _ => hL0
  have hL' := ghost_list hT9 hL0
  rename IntsAre _ _ => hI
  rename ¬ (63 : Int) < _ => hlen
  have hl63 := Nat.le_of_not_lt (fun h => hlen (Int.ofNat_lt.mpr h))
  have l0 := ghost_lt hT9 F
  clear N0 F T KX X V B TE TW hD ho hcd Y G hL0 eLO
  (try k_fold)
  refine any_QE fun Q' E' hQ => ?_
  walk_at "my upto"
  have hG0 : AllBare s₁.gens := by rw [hg]; intro g hg'; simp at hg'
  have eN : ([] ++ tabNews tabs2 : Led) = [(70, tabObj #[]), (63, tabObj #[])] := rfl
  rw [eN] at N'
  k_dflt (refine' new_acc2 _ _ _ _ _ _ _ _ _ _ _ _ _ _ _ _ _ _ _ _ _ _ ?B ?F ?X ?N ?T ?kK ?kd ?ku ?_)
  walk_at "use"
  intro x dx h2 tk2 hsh2 t2 t2' hx F2 N2
  have HA2 : AccAt ((x, accO dx [] 0) :: (dx, szO hsh2 t2 t2' 1) :: [(70, tabObj #[]), (63, tabObj #[])]) x dx [] := ⟨⟨[], 0, _, _, _, _, List.mem_cons_self, List.mem_cons_of_mem _ List.mem_cons_self, trivial⟩⟩
  have HT2 : Tabs ((x, accO dx [] 0) :: (dx, szO hsh2 t2 t2' 1) :: [(70, tabObj #[]), (63, tabObj #[])]) := ⟨⟨#[], #[], by k_mem, True.intro, by k_mem, True.intro⟩⟩
  have hx70 : x ≠ 70 := Ne.symm (Nat.ne_of_lt (hx (70, tabObj #[]) (by k_mem)).1)
  have hx63 : x ≠ 63 := Ne.symm (Nat.ne_of_lt (hx (63, tabObj #[]) (by k_mem)).1)
  generalize hled : ((x, accO dx [] 0) :: (dx, szO hsh2 t2 t2' 1) :: [(70, tabObj #[]), (63, tabObj #[])] : Led) = led2 at HA2 HT2 N2
  clear hled N'
  (try dsimp only)
  walk_at "my upto"
  k_dflt (refine' (numbers_spec (w := _) hI hl63).use hL' ?B ?F ?X ?N ?T ?kK ?kd ?ku ?_)
  walk_at "use"
  intro v3 h3 tk3 n3 F3 N3 P3
  refine o_ex4 (v := v3) P3 fun na nums ws nn HK => ?_
  have hnm := HK.1
  have hni := HK.2.1
  have hn5 := HK.2.2.1
  have hn0 := HK.2.2.2.1
  have K3 := HK.2.2.2.2
  clear HK P3
  have HA3 := AccAt.mono HA2 K3
  have HT3 := HT2.mono K3
  (try dsimp only)
  walk_at "my upto"
  k_dflt (refine' (drawn_spec (w := _) hnm hni hn0 hn5 HA3).use ?B ?F ?X ?N ?T ?kK ?kd ?ku ?_)
  walk_at "use"
  intro v4 h4 tk4 n4 F4 N4 P4
  refine o_ex2 (v := v4) P4 fun cs tt HK => ?_
  have hBal := HK.1
  have HA4 := HK.2.1
  have K4 := HK.2.2
  clear HK P4
  have HT4 : Tabs n4 := by
    obtain ⟨ps, ps', a1, b1, a2, b2⟩ := HT3.out
    exact ⟨ps, ps', K4 _ a1 (Ne.symm hx70), b1, K4 _ a2 (Ne.symm hx63), b2⟩
  have hcl : cs.length = 10 := hBal.len
  have hcL := hBal.letters
  refine acc_open HA4 fun vs4 nn4 hsh4 t44 t44' k44 hm4 hd4 _ => ?_
  have hk4 : ∀ n5, Keeps1 70 n4 n5 → AccAt n5 x dx cs := by
    obtain ⟨ps, ps', a1, b1, a2, b2⟩ := HT4.out
    exact fun n5 K => HA4.but N4 a1 rfl K
  (try dsimp only)
  walk_at "my upto"
  k_dflt (refine' accL_str ?zF ?zX ?zN hm4 hd4 ?zu ?_)
  case zF => k_asm
  case zX => k_asm
  case zN => k_asm
  case zu => ktr_units
  k_dflt (refine' (str_spec (w := _) HA4 (by omega) HT4).use ?B ?F ?X ?N ?T ?kK ?kd ?ku ?G ?_)
  case G => exact hG0
  walk_at "use"
  intro v5 s5 n5 F5 N5 G5 os5 P5
  refine o_some (v := v5) P5 fun t5 HK => ?_
  have K5 := HK.1
  have HT5 := HK.2
  clear HK P5
  have HA5 : AccAt n5 x dx cs := hk4 _ K5
  refine acc_open HA5 fun vs5 nn5 hsh5 t55 t55' k55 hm5 hd5 _ => ?_
  show wpAny _ _ _ _ _ _
  (try clear F4)
  (try clear N4)
  (try dsimp only)
  walk_at "my upto6"
  rw [show (txt cs != txt cs) = false from by simp]
  walk_at "my past6"
  walk_at "my upto6"
  k_dflt (refine' (core_spec (w := _) HA5 (by omega) hcL HT5).use ?B ?F ?X ?N ?T ?kK ?kd ?ku ?G ?_)
  case G => exact G5
  walk_at "use"
  intro v6 s6 n6 F6 N6 G6 os6 P6
  refine o_ex2 (v := v6) P6 fun xc dc HK => ?_
  have HA6 := HK.1
  have K6 := HK.2.1
  have HT6 := HK.2.2.1
  clear HK P6
  obtain ⟨k, hWB, hk5⟩ := core_bal hBal
  have hWL := hWB.letters
  have hWl := hWB.len
  have hstr := struck_core hBal
  generalize hW : coreW cs = W at HA6 hWB hWL hWl hstr
  have hk6 : ∀ n7, Keeps1 70 n6 n7 → AccAt n7 xc dc W := by
    obtain ⟨ps, ps', a1, b1, a2, b2⟩ := HT6.out
    exact fun n5 K => HA6.but N6 a1 rfl K
  refine acc_open HA6 fun vs6 nn6 hsh6 t66 t66' k66 hm6 hd6 _ => ?_
  (try clear F5)
  (try clear N5)
  (try dsimp only)
  walk_at "my upto6"
  k_dflt (refine' accL_str ?zF ?zX ?zN hm6 hd6 ?zu ?_)
  case zF => k_asm
  case zX => k_asm
  case zN => k_asm
  case zu => ktr_units
  k_dflt (refine' (str_spec (w := _) HA6 (by omega) HT6).use ?B ?F ?X ?N ?T ?kK ?kd ?ku ?G ?_)
  case G => exact G6
  walk_at "use"
  intro v7 s7 n7 F7 N7 G7 os7 P7
  refine o_some (v := v7) P7 fun t7 HK => ?_
  have K7 := HK.1
  have HT7 := HK.2
  clear HK P7
  have HA7 : AccAt n7 xc dc W := hk6 _ K7
  refine acc_open HA7 fun vs7 nn7 hsh7 t77 t77' k77 hm7 hd7 _ => ?_
  show wpAny _ _ _ _ _ _
  (try clear F6)
  (try clear N6)
  (try dsimp only)
  walk_at "my upto6"
  k_dflt (refine' (struck_spec (w := _) (by omega) hcL).use ?B ?F ?X ?N ?T ?kK ?kd ?ku ?_)
  walk_at "use"
  intro v8 h8 tk8 n8 F8 N8 P8
  refine o_some (v := v8) P8 fun t8 K8 => ?_
  clear P8
  rw [hstr]
  have HA8 := AccAt.mono HA7 K8
  have HT8 := HT7.mono K8
  (try clear F7)
  (try clear N7)
  (try dsimp only)
  walk_at "my upto6"
  rw [show (txt W != txt W) = false from by simp]
  walk_at "my past6"
  walk_at "my upto6"
  k_dflt (refine' (told_spec (w := _) (by omega) hcL).use ?B ?F ?X ?N ?T ?kK ?kd ?ku ?_)
  walk_at "use"
  intro v9 h9 tk9 n9 F9 N9 P9
  refine o_ex1 (v := v9) P9 fun la HK => ?_
  have HTa := HK.1
  have K9 := HK.2
  clear HK P9
  rw [told_apart hcL] at HTa
  have HA9 := AccAt.mono HA8 K9
  have HT9 := HT8.mono K9
  (try clear F8)
  (try clear N8)
  (try dsimp only)
  walk_at "my upto6"
  k_dflt (refine' (apart_spec (w := _) (by omega) hcL).use ?B ?F ?X ?N ?T ?kK ?kd ?ku ?_)
  walk_at "use"
  intro va ha tka na9 Fa Na Pa
  refine o_ex1 (v := va) Pa fun lb HK => ?_
  have HTb := HK.1
  have Ka := HK.2
  clear HK Pa
  have HAa := AccAt.mono HA9 Ka
  have HTTa := HT9.mono Ka
  have HTa2 : TextsAt na9 la (apart cs) := by
    obtain ⟨vv, nv, q1, q2⟩ := HTa
    exact ⟨vv, nv, Ka _ q1, q2⟩
  (try clear F9)
  (try clear N9)
  (try dsimp only)
  walk_at "my upto6"
  rename News _ _ _ _ => Nb
  refine texts_ne Nb HTa2 HTb (by rw [← told_apart hcL]; exact told_small) (by ktr_units) ?_
  (try dsimp only)
  walk_at "my upto6"
  have hk9 : ∀ nc, (∀ p ∈ na9, p.1 ≠ 63 → p.1 ≠ 70 → p ∈ nc) → AccAt nc xc dc W := fun nc K => HAa.but2 Nb HTTa K
  refine acc_open HAa fun vsa nna hsha taa taa' kaa hma hda _ => ?_
  walk_at "my past6"
  walk_at "my upto7"
  k_dflt (refine' (onlyws_spec (w := _) HAa (by omega) hWL HTTa).use ?B ?F ?X ?N ?T ?kK ?kd ?ku ?G ?_)
  case G => exact G7
  walk_at "use"
  intro vc sc nc Fc Nc Gc osc Pc
  refine o_is (v := vc) Pc fun HK => ?_
  have Kc := HK.1
  have HTc := HK.2
  clear HK Pc
  have HAc := hk9 _ Kc
  refine acc_open HAc fun vsc nnc hshc tc tc' kc hmc hdc _ => ?_
  (try dsimp only)
  walk_at "my upto7"
  walk1
  rw [txt_empty]
  walk_at "my upto7"
  walk1
  rw [show ((W == []) != (W == [])) = false from by simp]
  walk_at "my past6"
  walk_at "my upto7"
  k_dflt (refine' (part_count_spec (w := _) HAc).use ?B ?F ?X ?N ?T ?kK ?kd ?ku ?_)
  walk_at "use"
  intro vd hd7 tkd nd Fd Nd Pd
  refine o_some (v := vd) Pd fun td Kd => ?_
  clear Pd
  (try clear Fc)
  (try clear Nc)
  (try dsimp only)
  have hxW : (txt W).length = W.length := by simp [Str.length]
  have hxW2 : (txt W).length ≤ 20 := by omega
  walk_at "my upto7"
  rw [hxW]
  refine ne_int_same ?_
  walk_at "my past6"
  walk_at "my upto7"
  refine wpAny_For ?_ (fun _ => rfl)
  walk_at "my upto7"
  rename News _ _ _ (_ :: _ :: nd) => Ne0
  rename Obj.IsDictOf (intKind _ w) _ [] => hD0
  rename (_ == sysModules) = false => hs0
  have HB0 := book_start Ne0 hD0 hs0
  have hsew := sew_bound hWB hk5
  k_dflt (refine' (sewings_spec (w := _) (by omega) hWL hsew).use ?B ?F ?X ?N ?T ?kK ?kd ?ku ?G ?_)
  case G => exact Gc
  walk_at "use"
  intro ve se ne Fe Ne Ge ose Pe
  refine o_ex3 (v := ve) Pe fun ra9 rs9 nn9 HK => ?_
  have hra := HK.1
  have hRows := HK.2.1
  have Ke := HK.2.2
  clear HK Pe
  have HBe := HB0.mono fun p hp _ => Ke p hp
  (try dsimp only)
  walk_at "my upto7"
  rename Fr _ _ _ _ => Fe
  rename News _ _ _ ne => Ne
  have hfew := sew_few hBal
  rw [hW] at hfew
  refine for_list (Ok := Still se) (ax := ra9) (its := (rs9.map Value.ref).toArray) (k := nn9) (lwI w W ne)
    rfl rfl rfl (fun _ _ _ => still_go _ _) ⟨_, _, rfl⟩ Fe Ne hra ⟨_, HBe, rfl, ⟨_, rfl⟩, fun p hp => hp⟩ ?_ ?_ ?_
  · rintro i m₁ led₁ led₂ hk ⟨ba, hB, h1, h2, h3⟩
    exact ⟨ba, hB.mono fun p hp hc => hk p hp (.inr (by rcases hc with hc | hc <;> rw [hc] <;> decide)), h1, h2, fun p hp => hk p (h3 p hp) (.inl (led_le Ne p hp))⟩
  · intro i v m₁ led₁ sL HS
    refine still_out HS fun hL2 tkL => ?_
    clear HS sL
    intro hv hmL HX
    refine lwI_out HX fun ba hB hn1 tw hn2 hKL => ?_
    clear HX
    intro FL NL
    (try clear Fe)
    (try clear Ne)
    obtain ⟨a9, ha9, rfl⟩ : ∃ a9, rs9[i]? = some a9 ∧ v = .ref a9 := by
      simp at hv
      obtain ⟨b, e1, e2⟩ := hv
      exact ⟨b, e1, e2.symm⟩
    have hjr : i < (sewTo W W.length).length := by rw [← hRows.1]; exact (List.getElem?_eq_some_iff.mp ha9).1
    obtain ⟨row, hrow⟩ : ∃ row, (sewTo W W.length)[i]? = some row := ⟨_, List.getElem?_eq_getElem hjr⟩
    obtain ⟨ia, na9', ham, hai⟩ := hRows.2 i a9 row ha9 hrow
    have hfull := sew_full row (List.mem_of_getElem? hrow)
    have hIL := ints_ms hai fun x hx => (hfull.2 x hx).1
    have hml : (msOf row).length = W.length := by simp [msOf, hfull.1]
    have hmsl : ∀ x ∈ msOf row, x < (msOf row).length := by
      intro y hy
      obtain ⟨x, hx, rfl⟩ := List.mem_map.mp hy
      have := hfull.2 x hx
      rw [hml]
      omega
    walk_at "my upto7"
    k_dflt (refine' (corners_spec2 (w := _) (ListAt.of (hKL _ ham)) hIL (by omega) hmsl).use ?B ?F ?X ?N ?T ?kK ?kd ?ku ?_)
    walk_at "use"
    intro v1 h1 tk1 n1 F1 N1 P1
    refine o_some (v := v1) P1 fun t1 K1 => ?_
    clear P1
    have hcle := corners_le (msOf row)
    have hB1 := hB.mono fun p hp _ => K1 p hp
    (try clear FL)
    (try clear NL)
    (try dsimp only)
    walk_at "my upto7"
    k_dflt (refine' (floordiv_spec (w := _) _ 2 (by decide) (by decide) _ _).use ?B ?F ?X ?N ?T ?kK ?kd ?ku ?_)
    walk_at "use"
    intro v2 h2f tk2f n2f F2f N2f P2f
    refine o_some (v := v2) P2f fun t2f K2f => ?_
    clear P2f
    have hB2 := hB1.mono fun p hp _ => K2f p hp
    rw [hxW]
    have hHb : -100 ≤ handlesOf W.length (corners (msOf row)) ∧ handlesOf W.length (corners (msOf row)) ≤ 100 := by
      unfold handlesOf
      rw [Int.fdiv_eq_ediv_of_nonneg _ (by decide), Int.fdiv_eq_ediv_of_nonneg _ (by decide)]
      omega
    have eH0 : ((W.length : Int).fdiv 2 + 1 - (corners (msOf row) : Int)).fdiv 2 = handlesOf W.length (corners (msOf row)) := rfl
    rw [eH0]
    obtain ⟨H, eH⟩ : ∃ H, H = handlesOf W.length (corners (msOf row)) := ⟨_, rfl⟩
    rw [← eH] at hHb ⊢
    obtain ⟨hHlo, hHhi⟩ := hHb
    (try clear F1)
    (try clear N1)
    (try dsimp only)
    walk_at "my upto7"
    rename Fr _ _ _ _ => Fg
    rename News _ _ _ _ => Ng
    rename Top _ _ _ _ _ _ => Tg
    refine kdn_eval (knd := PySem.intKind _ w) Fg Ng (Top.nolimit Tg) rfl rfl (List.cons_ne_nil _ _) (by decide) ?_
    intro dN hNw oN FN NN lN loN hdN
    (try clear Fg)
    (try clear Ng)
    (try dsimp only)
    walk_at "my upto7"
    rename News _ _ _ (_ :: _ :: n2f) => Ns
    rename Obj.IsDictOf (intKind _ w) _ (intKeyPairs _) => hDs
    have HBs := book_one (k := H) (x := 1) Ns hDs loN
    have HBt := hB2.mono fun p hp _ => mem_of_N2 Ns p hp
    have hlt : (bookOf W.length ((sewTo W W.length).take i)).2.2.2.2.length ≤ 100 := by
      have h9 := book_tab W.length ((sewTo W W.length).take i) (0, 0, 0, 0, [])
      have h8 : ((sewTo W W.length).take i).length ≤ (sewTo W W.length).length := by simp; omega
      simp only [List.length_nil] at h9
      unfold bookOf
      omega
    have hKs : ∀ p ∈ n2f, p ∈ _ := mem_of_N2 Ns
    k_dflt (refine' (stats_spec (w := _) HBt HBs hlt (Nat.le_of_ble_eq_true rfl)).use ?B ?F ?X ?N ?T ?kK ?kd ?ku ?_)
    walk_at "use"
    intro v3 h3s tk3s n3s F3s N3s P3s
    refine o_ex1 (v := v3) P3s fun b3 HK => ?_
    have hB3 := HK.1
    have K3s := HK.2
    clear HK P3s
    (try clear Ns)
    (try dsimp only)
    walk_at "my upto7"
    rename Fr _ _ _ _ => F5
    rename News _ _ _ n3s => N5
    have hall : ∀ p ∈ led₁, p ∈ n3s := fun p hp => K3s p (hKs p (K2f p (K1 p hp)))
    refine ⟨_, _, ⟨_, _, rfl⟩, F5, N5, fun p hp _ => hall p hp, fun p hp => by rw [List.mem_singleton.mp hp]; exact hall _ hmL, b3, ?_, rfl, ⟨_, hn2⟩, fun p hp => hall p (hKL p hp)⟩
    rw [book_take hrow]
    rw [eH] at hB3
    exact hB3
  · intro m₁ led₁ sL HS
    refine still_out HS fun hL2 tkL => ?_
    clear HS sL
    intro HX
    refine lwI_out HX fun ba hB hn1 tw hn2 hKL => ?_
    clear HX
    intro FL NL
    have e9 : (sewTo W W.length).take (rs9.map Value.ref).toArray.size = sewTo W W.length := List.take_of_length_le (by simp [hRows.1])
    rw [e9] at hB
    (try dsimp only)
    walk_at "my upto7"
    have hOk := book_ok hBal
    rw [hW] at hOk
    have q1 := hOk.1
    have q2 := hOk.2.1
    have q3 := hOk.2.2.1
    have q4 := hOk.2.2.2.1
    have q5 := hOk.2.2.2.2.1
    have q6 := hOk.2.2.2.2.2.1
    have q7 := hOk.2.2.2.2.2.2
    clear hOk
    k_dflt (refine' (due_spec (w := _) hWL hWl (by omega)).use ?B ?F ?X ?N ?T ?kK ?kd ?ku ?_)
    walk_at "use"
    intro vd hdd tkdd ndd Fdd Ndd Pdd
    refine o_ex1 (v := vd) Pdd fun bd HK => ?_
    have hBd := HK.1
    have Kdd := HK.2
    clear HK Pdd
    have hBm := hB.mono fun p hp _ => Kdd p hp
    have hBm2 := hBm
    refine book_open hBm2 fun t1 t2 t3 t4 dB nB hmB HDB loB => ?_
    (try clear FL)
    (try clear NL)
    (try dsimp only)
    walk_at "my upto7"
    rename News _ _ _ ndd => Nq
    refine book_eq Nq hBm hBd q1 q2 q3 q4 q5 q6 (by ktr_units) (by ktr_units) ?_
    (try dsimp only)
    walk_at "my past6"
    walk_at "my upto7"
    k_dflt (refine' (count_spec (w := _) HDB loB).use ?B ?F ?X ?N ?T ?kK ?kd ?ku ?_)
    walk_at "use"
    intro vc2 hc2 tkc2 nc2 Fc2 Nc2 Pc2
    refine o_some (v := vc2) Pc2 fun tc2 Kc2 => ?_
    clear Pc2
    rw [q7]
    have hmB2 := Kc2 _ hmB
    (try clear Nq)
    (try dsimp only)
    walk_at "my upto7"
    refine eq_int_same ?_
    (try dsimp only)
    (repeat' (walk_at "my cut"))
    (try dsimp only)

    rename Fr _ _ _ _ => Fz
    rename News _ _ _ nc2 => Nz
    have HTz := HTc.mono fun p hp => Kc2 _ (Kdd _ (hKL _ (Ke _ (List.mem_cons_of_mem _ (List.mem_cons_of_mem _ (Kd p hp))))))
    refine hQ _ _ ?_
    exact good_end hT9 Fz Nz HTz (fun _ => rfl) (by kernel_rfl) (ose.trans (osc.trans (os7.trans (os6.trans os5)))) Ge)
end
end Mine
theorem PySem.Challenge.cw_zn0013_01_holds : PySem.Challenge.rw_zn0013_01.Holds := by
  exact Mine.top_t
