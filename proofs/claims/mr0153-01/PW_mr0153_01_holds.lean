import PyProof.Rows.All
import Wide.All
import OpenK.AllK
import Wide.FinOn
import PySem.Challenge.RW_mr0153_01
open PySem PySem.W PyProof.Rows
set_option Elab.async false
set_option compiler.extract_closed false
set_option linter.unusedVariables false
set_option maxRecDepth 100000
set_option maxHeartbeats 8000000

-- H0
namespace Mine
open_top hd for PySem.Challenge.rw_mr0153_01
/-- a switch of the walk is laid back: the texts apart were walked so -/
theorem switch_back : True := by (w_top off; trivial)
end Mine

-- B1
namespace Mine
open PySem PySem.W PyProof.Rows PySem.Spec PySem.Calls

noncomputable def isTab (o : Obj) : Bool := match o.cls, o.data with
  | .none, .fields _ => true
  | _, _ => false
noncomputable def gho (o : Obj) : Obj := if isTab o then { o with data := .freed } else o
noncomputable def gh (h : Heap) : Heap := ⟨h.objs.map gho, h.life⟩
theorem gh_get {h : Heap} {b : Addr} {o : Obj} : (gh h).get? b = some o ↔ (h.get? b = some o ∧ isTab o = false) := by
  unfold gh Heap.get?
  simp only [Array.getElem?_map]
  cases hq : h.objs[b]? with
  | none => simp
  | some x =>
    obtain ⟨c, d, dt, sl⟩ := x
    simp only [Option.map_some, gho]
    cases ht : isTab ⟨c, d, dt, sl⟩ with
    | true =>
      simp only [if_true]
      constructor
      · intro e; cases e
      · rintro ⟨e, e2⟩
        cases dt <;> simp_all [isTab]
        all_goals (subst e; cases c <;> simp_all [isTab])
    | false =>
      simp only [Bool.false_eq_true, if_false]
      constructor
      · intro e
        refine ⟨e, ?_⟩
        cases dt <;> simp_all
        all_goals (subst e; exact ht)
      · exact fun e => e.1
theorem gh_size {h : Heap} : (gh h).objs.size = h.objs.size := by simp [gh]
/-- all that is no code table stays -/
noncomputable def Kp (h h' : Heap) : Prop := ∀ b o, h.get? b = some o → isTab o = false → h'.get? b = some o
theorem Kp.refl (h : Heap) : Kp h h := fun _ _ e _ => e
theorem Kp.trans {h h' h'' : Heap} (a : Kp h h') (b : Kp h' h'') : Kp h h'' := fun x o e t => b x o (a x o e t) t
theorem Kp.gh {h h' : Heap} (k : Kp h h') : ∀ b o, (gh h).get? b = some o → (gh h').get? b = some o := fun b o e => by
  rw [gh_get] at e ⊢
  exact ⟨k b o e.1 e.2, e.2⟩
theorem Kp.of_gh {h h' : Heap} (k : ∀ b o, (Mine.gh h).get? b = some o → h'.get? b = some o) : Kp h h' := fun b o e t => k b o (gh_get.mpr ⟨e, t⟩)
theorem Fr.kp {h h' : Heap} {L : Addr} {m : Str → Option Value} (F : Fr (gh h) L h' m) : Kp h h' := Kp.of_gh F.keep
end Mine

-- B2
namespace Mine
open PySem PySem.W PyProof.Rows PySem.Spec PySem.Calls
noncomputable abbrev PG : Program := PySem.Challenge.rw_mr0153_01.row.prog
/-- the ground that every call stands on -/
structure Gd (w : World) (mg mb : Str → Option Value) (h : Heap) : Prop where
  X : (hd.heap_39 w.params).In (gh h)
  T : ∃ loose mean, Top topProg loose mean mg mb (gh h)
theorem Gd.kp {w : World} {mg mb : Str → Option Value} {h h' : Heap} (G : Gd w mg mb h) (k : Kp h h') : Gd w mg mb h' :=
  ⟨G.X.keeps k.gh, let ⟨l, m, T⟩ := G.T; ⟨l, m, T.keeps k.gh⟩⟩
/-- a base: some of the heap's objects, those that a call is to keep -/
structure Bs (B h : Heap) : Prop where
  sub : ∀ b o, B.get? b = some o → h.get? b = some o
  size : B.objs.size ≤ h.objs.size
theorem Bs.gh (h : Heap) : Bs (Mine.gh h) h := ⟨fun b o e => (gh_get.mp e).1, Nat.le_of_eq gh_size⟩
theorem Bs.self (h : Heap) : Bs h h := ⟨fun _ _ e => e, Nat.le_refl _⟩
/-- all but one table -/
noncomputable abbrev gP (P : Addr) (h : Heap) : Heap := hideAll h [P]
theorem Bs.gP (P : Addr) (h : Heap) : Bs (Mine.gP P h) h := ⟨fun b o e => of_hideAll _ e, Nat.le_of_eq (hideAll_size _ _)⟩
theorem gP_get {P : Addr} {h : Heap} {b : Addr} {o : Obj} (e : h.get? b = some o) (n : b ≠ P) : (gP P h).get? b = some o := hideAll_get _ e (by simpa using n)
theorem gP_none {P : Addr} {h : Heap} : (gP P h).get? P = none := hideAll_none _ (by simp)
theorem gh_gP {P : Addr} {h : Heap} {ps : Array Value} (t : h.get? P = some (tabObj ps)) : ∀ b o, (gh h).get? b = some o → (gP P h).get? b = some o := fun b o e => by
  obtain ⟨e1, e2⟩ := gh_get.mp e
  exact gP_get e1 (by rintro rfl; rw [t] at e1; cases e1; cases e2)
section
variable {w : World} {A : Around} {E Q : Value → Shared → Prop} {s : Shared} {K : Frag} {f : Addr} {args : List Value} {binds : List (Str × Value)} {B : Heap}
  {name qual : Str} {params : Arguments} {body : List Stmt} {scope : Scope} {dV kV doc pm cdv ct oc : Value} {an od : Option Addr} {osl : Array (Option Value)} {cl : List (Str × Addr)}
theorem enter (bs : Bs B s.heap) (hlim : s.heap.NoLimit)
    (ho : s.heap.get? f = some ⟨oc, od, .func (fnX name qual params body scope cl dV kV doc pm an cdv ct), osl⟩) (hcd : s.heap.CodeRec cdv qual) (hroom : A.depth < recursionLimit)
    (hbind : BindsTo s (fnX name qual params body scope cl dV kV doc pm an cdv ct) ⟨args, []⟩ binds) (hloc : ∀ y ∈ binds, scope.names.lookup y.1 = some .local)
    (h : ∀ L h₁, Fr B L h₁ (fun y => binds.reverse.lookup y) → s.heap.objs.size ≤ L → (∀ b o, s.heap.get? b = some o → h₁.get? b = some o) →
      wpAny (model PG w) (A.deeper (envX qual scope L f cdv cl)) (execs body (envX qual scope L f cdv cl))
        (fun fl s' => Q (match fl with | .ret v => v | _ => .none) s') (fun _ _ => False)
        { s with heap := h₁, toks := s.toks + binds.length })
    (hcell : ∀ x ∈ scope.names, x.2 ≠ .cell) (hco : scope.isCoroutine = false := by rfl) (hgen : scope.isGenerator = false := by rfl) (hk : scope.kind = .function := by rfl) :
    wpAny (model PG w) A (call (.ref f) args) Q E s := by
  refine wpAny_call (codeAny_call_def hroom ho rfl hlim hcd rfl hbind hcell hloc (fun h₁ hns hk₁ => ?_) hco hgen hk)
  refine wpAny_mono (h s.heap.objs.size h₁ ⟨hns, fun b o e => hk₁ b o (bs.sub b o e), bs.size⟩ (Nat.le_refl _) hk₁) (fun fl s' x => ?_) fun _ _ x => x.elim
  exact x
theorem Gd.nolimit {mg mb : Str → Option Value} {h : Heap} (G : Gd w mg mb h) : h.NoLimit := let ⟨_, _, T⟩ := G.T; T.nolimit.keeps fun b o e => (gh_get.mp e).1
theorem Gd.inH {mg mb : Str → Option Value} {h : Heap} (G : Gd w mg mb h) : (hd.heap_39 w.params).In h := G.X.keeps fun b o e => (gh_get.mp e).1
end
section
variable {B h h' : Heap} {L P : Addr} {m : Str → Option Value} {news : List (Addr × Obj)}
/-- a ledger onto objects that stood before -/
theorem News.old {L : Addr} {a : Addr} {o : Obj} (N : News B L h news) (e : h.get? a = some o) (hn : B.get? a = none) (hL : a ≠ L) : News B L h ((a, o) :: news) := fun p hp => by
  rcases List.mem_cons.mp hp with rfl | hp
  · exact ⟨e, hL, hn⟩
  · exact N p hp
end
end Mine

-- B3
namespace Mine
open PySem PySem.W PyProof.Rows PySem.Spec PySem.Calls
open Builtin Builtin.ObjectAttr
theorem slot_fn_setattr : Slot "function" "__setattr__" "object.__setattr__" :=
  .of (owner := "object") (n := "__setattr__") (by rw [typeLookup_type, builtinLookup_eq_fast]; kernel_rfl) (by decide +kernel) (by decide +kernel) (by decide +kernel)
    (by first | exact .inl (by decide +kernel) | exact .inr (by decide +kernel)) (by rw [isSubtype_type]; kernel_rfl)
theorem slot_fn_getattribute : Slot "function" "__getattribute__" "object.__getattribute__" :=
  .of (owner := "object") (n := "__getattribute__") (by rw [typeLookup_type, builtinLookup_eq_fast]; kernel_rfl) (by decide +kernel) (by decide +kernel) (by decide +kernel)
    (by first | exact .inl (by decide +kernel) | exact .inr (by decide +kernel)) (by rw [isSubtype_type]; kernel_rfl)
theorem lk_fn_search : typeLookup (.type "function") "search" = pure none := by rw [typeLookup_type, builtinLookup_eq_fast]; kernel_rfl
theorem lk_fn_span : typeLookup (.type "function") "span" = pure none := by rw [typeLookup_type, builtinLookup_eq_fast]; kernel_rfl
theorem lk_fn_getattr : typeLookup (.type "function") "__getattr__" = pure none := by rw [typeLookup_type, builtinLookup_eq_fast]; kernel_rfl
theorem mro_fn : mroOf (.type "function") = pure [.type "function", .type "object"] := by kernel_rfl
theorem refuse_fn (self : Value) : refuseLoop self "__setattr__" [.type "function", .type "object"] = pure () := by kernel_rfl
theorem has_dict_fn : typeHasDict (.type "function") = true := by decide +kernel
theorem cyc_fn : finalisedInACycleAlone "function" = false := by decide +kernel

section
variable {prog : Program} {w : World} {A : Around} {E : Value → Shared → Prop} {s : Shared} {f : Addr} {fd : FuncData} {sl : Array (Option Value)} {name : Str} {v : Value}
/-- a function's attribute, stored first -/
theorem setAttr_fn {Q : Unit → Shared → Prop} (hf : s.heap.get? f = some ⟨.type "function", none, .func fd, sl⟩) (hn : typeLookup (.type "function") name = pure none)
    (h : ∀ h' tk D, s.heap.objs.size ≤ D → h'.get? f = some ⟨.type "function", some D, .func fd, sl⟩ → h'.Ns D (fun y => if y = name then some v else none) →
      (∀ b o, b ≠ f → s.heap.get? b = some o → h'.get? b = some o) → Q () { s with heap := h', toks := tk }) :
    wpAny (model prog w) A (setAttr (.ref f) name v) Q E s := by
  obtain ⟨hp, g, d, t, os⟩ := s
  have hT : ∀ tk : Nat, (⟨hp, g, d, tk, os⟩ : Shared).TypeIs (.ref f) "function" := fun tk => ⟨_, hf, rfl⟩
  unfold setAttr
  refine wpAny_bind (wpAny_mkText (wpAny_bind (wpAny_callSpecial?_slot (hT _) slot_fn_setattr (wpAny_call_entry slot_fn_setattr (hT _) F.entry_object_setattr ?_ (F.args_object_setattr_3 _ _ _)))))
  unfold Builtin.«object.__setattr__»
  have hm := mro_fn
  have hpass := refuse_fn (.ref f)
  have hTy := hT (t + 1)
  repeat (first | rw [refuse_eq] | (rw [hpass]) | (with_reducible refine wpAny_nsSet1 (m := fun _ => none) ?hns ?hq) | wp_step)
  case hns =>
    refine Heap.Ns1.of_empty ⟨_, #[], _, (Heap.get?_update_ne _ _ _ _ (Nat.ne_of_gt (Heap.lt_size hf))).trans (Heap.get?_push_at rfl rfl), rfl, fun e he => absurd he (by simp), fun _ => rfl⟩
  case hq =>
    intro h' hn' hs
    obtain ⟨oD, esD, epD, hoD, hdD, hcD⟩ := hn'.count (Within.cons name v Within.nil)
    refine wpAny_bind (wpAny_lookBehind hoD (by rw [hdD]; exact pastItsLine_dict (Nat.le_trans hcD (by rw [List.length_cons, List.length_nil, sizeLine_eq]; omega))) ?_)
    refine wpAny_pure ⟨.none, rfl, wpAny_pure ?_⟩
    refine h h' _ hp.objs.size (Nat.le_refl _) ?_ ?_ ?_
    · refine (hs.2 f (Nat.ne_of_lt (Heap.lt_size hf))).trans ?_
      exact Heap.get?_update_self _ (Heap.get?_push_of_some _ hf) rfl
    · obtain ⟨o', es, ep, e1, e2, e3, eu, e4⟩ := hn'
      exact ⟨o', es, ep, e1, e2, e3, e4⟩
    · intro b o hb e
      exact (hs.2 b (Nat.ne_of_lt (Heap.lt_size e))).trans ((Heap.get?_update_ne _ _ _ _ hb).trans (Heap.get?_push_of_some _ e))

/-- a function's attribute, read for a call -/
theorem getMethod_fn {D : Addr} {m : Str → Option Value} {g : Addr} {pl : Sem Bool} {Q : Value × List Value → Shared → Prop}
    (hf : s.heap.get? f = some ⟨.type "function", some D, .func fd, sl⟩) (hn : typeLookup (.type "function") name = pure none) (hD : s.heap.Ns D m) (hm : m name = some (.ref g))
    (h : ∀ tk, Q (.ref g, []) { s with toks := tk }) : wpAny (model prog w) A (getMethod (.ref f) name pl) Q E s := by
  obtain ⟨hp, gg, d, t, os⟩ := s
  have hT : ∀ tk : Nat, (⟨hp, gg, d, tk, os⟩ : Shared).TypeIs (.ref f) "function" := fun tk => ⟨_, hf, rfl⟩
  unfold getMethod
  refine wpAny_bind (wpAny_specialOf (hT _) slot_fn_getattribute.lookup ?_)
  show wpAny _ A (if (Manifest.canonical "object.__getattribute__" != "object.__getattribute__") = true then _ else _) Q E _
  rw [F.canon_object_ga, if_neg Bool.false_ne_true]
  refine wpAny_bind (wpAny_specialOf (hT _) lk_fn_getattr ?_)
  refine wpAny_bind (wpAny_specialOf (hT _) hn ?_)
  unfold getAttr getAttrBy
  refine wpAny_bind (wpAny_bind (wpAny_mkText (wpAny_holding (wpAny_bind (wpAny_typeOf (hT _) (wpAny_bind (wpAny_of_eq slot_fn_getattribute.lookup ?_)))))))
  show wpAny _ A (getAttrByItsOwn _ _ _ _ _ _) _ E _
  unfold getAttrByItsOwn
  refine wpAny_bind (wpAny_pure (wpAny_bind (wpAny_attempt (wpAny_holding ?_))))
  show wpAny _ A (boundAndCalled _ _ _) _ _ _
  unfold boundAndCalled
  rw [slot_fn_getattribute.bind]
  refine wpAny_bind (wpAny_pure ?_)
  refine wpAny_call_entry slot_fn_getattribute (hT _) F.entry_object_getattribute ?_ (F.args_object_getattribute_2 _ _)
  unfold Builtin.«object.__getattribute__»
  have hTy := hT (t + 1)
  repeat (first | (with_reducible refine wpAny_nsGet hD ?_) | wp_step)
  rw [hm]
  repeat (first | wp_step)
  refine ⟨.ref g, rfl, wpAny_pure (wpAny_pure (h _))⟩
end
end Mine

-- B4
namespace Mine
open PySem PySem.W PyProof.Rows PySem.Spec PySem.Calls
noncomputable abbrev AA (d u : Nat) : Around := { handled := none, depth := d, frames := none, guards := none, units := u }
/-- the room that a call finds -/
structure Rm (A : Around) (d u : Nat) : Prop where
  hd : A.handled = none
  dp : A.depth ≤ d
  un : A.units ≤ u
theorem Rm.any {α : Type} {M : Model} {A : Around} {d u : Nat} {t : Sem α} {Q : α → Shared → Prop} {E : Value → Shared → Prop} {s : Shared} (r : Rm A d u) (h : wpAny M (AA d u) t Q E s) : wpAny M A t Q E s :=
  fun Γ p hΓ => h Γ p ⟨hΓ.1.trans r.hd, Nat.le_trans hΓ.2.1 r.dp, fun _ e => (nomatch e), fun _ e => (nomatch e), Nat.le_trans hΓ.2.2.2.2 r.un⟩
theorem Ns.kp {h h' : Heap} {a : Addr} {m : Str → Option Value} (x : h.Ns a m) (k : Kp h h') : h'.Ns a m :=
  let ⟨o, es, ep, e, hd, r⟩ := x; ⟨o, es, ep, k _ _ e (by unfold isTab; rw [hd]; cases o.cls <;> rfl), hd, r⟩
/-- the state behind a call: the heap and the tokens alone -/
noncomputable abbrev Sh (s : Shared) (h : Heap) (t : Nat) : Shared := { s with heap := h, toks := t }
/-- a code object of that qualified name -/
noncomputable def Cd (h : Heap) (c : Addr) (q : Str) : Prop := ∃ o vs t, h.get? c = some o ∧ o.cls = .type "code" ∧ o.data = .fields vs ∧ vs[1]? = some (.str q t)
theorem Cd.kp {h h' : Heap} {c : Addr} {q : Str} (x : Cd h c q) (k : Kp h h') : Cd h' c q :=
  let ⟨o, vs, t, e, hc, r⟩ := x; ⟨o, vs, t, k _ _ e (by unfold isTab; rw [hc]), hc, r⟩
theorem Cd.rec {h : Heap} {c : Addr} {q : Str} (x : Cd h c q) : h.CodeRec (.ref c) q := let ⟨o, vs, t, e, _, d, r⟩ := x; ⟨c, o, vs, t, rfl, e, d, r⟩
theorem CodeHd.kp {h h' : Heap} {c P : Addr} (x : CodeHd h c P) (k : Kp h h') : CodeHd h' c P :=
  by obtain ⟨o, vs, file, tf, flags, tg, inF, text, tt, e, hc, r⟩ := x; exact ⟨o, vs, file, tf, flags, tg, inF, text, tt, k _ _ e (by unfold isTab; rw [hc]), hc, r⟩
/-- all stays but one table -/
noncomputable def KpB (P : Addr) (h h' : Heap) : Prop := ∀ b o, b ≠ P → h.get? b = some o → h'.get? b = some o
theorem KpB.refl (P : Addr) (h : Heap) : KpB P h h := fun _ _ _ e => e
theorem KpB.trans {P : Addr} {h h' h'' : Heap} (a : KpB P h h') (b : KpB P h' h'') : KpB P h h'' := fun x o n e => b x o n (a x o n e)
theorem KpB.kp {P : Addr} {h h' : Heap} {ps : Array Value} (k : KpB P h h') (t : h.get? P = some (tabObj ps)) : Kp h h' := fun b o e i => k b o (by rintro rfl; rw [t] at e; cases e; cases i) e
theorem codeAmong_snoc_cases {p : Pos} {a b : Int} {c cv : Value} (l : List Value) (h : TriplesOk l) (e : codeAmong p (l ++ [rawInt a, rawInt b, c]) = some cv) :
    codeAmong p l = some cv ∨ (a = p.line ∧ b = p.col ∧ cv = c) := by
  fun_induction TriplesOk l with
  | case1 =>
    simp only [List.nil_append, codeAmong, rawInt] at e
    split at e
    · rename_i q
      simp at q
      cases e
      exact .inr ⟨q.1, q.2, rfl⟩
    · cases e
  | case2 a' t b' u x rest ih =>
    simp only [List.cons_append, codeAmong] at e ⊢
    split at e
    · rename_i q; rw [if_pos q]; exact .inl e
    · rename_i q; rw [if_neg q]; exact ih h e
  | case3 l h1 h2 => exact h.elim
theorem codeAmong_pos (p : Pos) (l : List Value) : codeAmong p l = codeAmong ⟨p.line, p.col, 0, 0⟩ l := by
  fun_induction codeAmong p l with
  | case1 line t col u c rest q => simp only [codeAmong]; rw [if_pos q]
  | case2 line t col u c rest q ih => simp only [codeAmong]; rw [if_neg q]; exact ih
  | case3 l h => unfold codeAmong; split <;> first | rfl | exact absurd rfl (h _ _ _ _ _ _)
/-- a code table whose entries are as R says -/
noncomputable def Tab (R : Nat → Nat → Addr → Heap → Prop) (h : Heap) (P : Addr) : Prop :=
  ∃ ps, h.get? P = some (tabObj ps) ∧ TriplesOk ps.toList ∧ ∀ (line col : Nat) cv, codeAmong ⟨line, col, 0, 0⟩ ps.toList = some cv → ∃ c, cv = .ref c ∧ R line col c h
noncomputable def fdOf (name qual : Str) (params : Arguments) (body : FuncBody) (scope : Scope) (clos : List (Str × Addr)) (dV kV doc pm cdv ctv : Value) : FuncData :=
  { name, qualname := qual, params, body, scope, globals := mainGlobals, closure := clos, defaults := dV, kwdefaults := kV, doc, pyModule := pm, annotations := none, code := cdv, closureTuple := ctv, builtins := builtinsNs }
section
variable {M : Model} {w : World} {A : Around} {E Q : Value → Shared → Prop} {s : Shared} {name qual : Str} {params : Arguments} {body : FuncBody} {scope : Scope} {env : Env} {c P : Addr} {pos : Pos} {firstLine : Nat} {mg mb : Str → Option Value}
  {clos : List (Str × Addr)} {dV kV : Value} {R : Nat → Nat → Addr → Heap → Prop}
theorem mkTail (G : Gd w mg mb s.heap)
    (hR : ∀ h h' l k c, (∃ ps, h.get? P = some (tabObj ps)) → KpB P h h' → R l k c h → R l k c h')
    (hcl : closureFor scope env = pure clos) (hge0 : env.globals = mainGlobals) (hcode : env.code = .ref c) (C : CodeHd s.heap c P) (T : Tab R s.heap P)
    (hnew : ∀ c' P' h', KpB P s.heap h' → s.heap.objs.size ≤ P' → Cd h' c' qual → CodeHd h' c' P' → h'.get? P' = some (tabObj #[]) → R pos.line pos.col c' h')
    (h : ∀ f c' ctv doc h' tk, KpB P s.heap h' → s.heap.objs.size ≤ f → h'.get? f = some ⟨.type "function", none, .func (fdOf name qual params body scope clos dV kV doc ((mg "__name__").getD .none) (.ref c') ctv), #[]⟩ →
      R pos.line pos.col c' h' → Tab R h' P → Q (.ref f) (Sh s h' tk)) :
    wpAny M A (makeTail name qual params body scope env dV kV none pos firstLine) Q E s := by
  obtain ⟨ps, hP, ht, hall⟩ := T
  obtain ⟨_, _, TT⟩ := G.T
  have gk : ∀ b o, (gh s.heap).get? b = some o → s.heap.get? b = some o := fun b o e => (gh_get.mp e).1
  have hg := TT.g.keeps gk
  obtain ⟨bm, ob, hbm, hne0, hbo', hcls, hdict, hdata⟩ := TT.bmain
  have hbo := gk _ _ hbo'
  have hbP : bm ≠ P := fun q => by rw [q, hP] at hbo; cases hbo; cases hcls
  have hgP : mainGlobals ≠ P := fun q => by
    obtain ⟨o, es, ep, e, hd, _⟩ := hg
    rw [q, hP] at e; cases e; cases hd
  unfold makeTail
  rw [hcl, hge0]
  refine wpAny_bind (wpAny_pure ?_)
  -- the tuple of the cells
  have step : ∀ (ctv : Value) (h₁ : Heap), (∀ b o, s.heap.get? b = some o → h₁.get? b = some o) → s.heap.objs.size ≤ h₁.objs.size →
      wpAny M A (functionCode env pos firstLine name qual params scope body >>= fun code => builtinsFor mainGlobals env.builtins >>= fun bu => nsGet mainGlobals "__name__" >>= fun nm =>
        (match body with
          | .stmts b => (match docOf b with | some s => mkText s | none => pure .none) >>= fun doc => newObj (.type "function") (.func ({ name, qualname := qual, params, body, scope, globals := mainGlobals, closure := clos, closureTuple := ctv, code, builtins := bu, defaults := dV, kwdefaults := kV, annotations := none, pyModule := nm.getD .none, doc } : FuncData))
          | .expr _ => pure .none >>= fun doc => newObj (.type "function") (.func ({ name, qualname := qual, params, body, scope, globals := mainGlobals, closure := clos, closureTuple := ctv, code, builtins := bu, defaults := dV, kwdefaults := kV, annotations := none, pyModule := nm.getD .none, doc } : FuncData)))) Q E { s with heap := h₁ } := by
    intro ctv h₁ k₁ z₁
    have C₁ := C.keeps k₁
    have hP₁ := k₁ _ _ hP
    have tail : ∀ (c' : Addr) (h' : Heap) (tk : Nat), KpB P s.heap h' → s.heap.objs.size ≤ h'.objs.size → R pos.line pos.col c' h' → Tab R h' P →
        wpAny M A (builtinsFor mainGlobals env.builtins >>= fun bu => nsGet mainGlobals "__name__" >>= fun nm =>
        (match body with
          | .stmts b => (match docOf b with | some s => mkText s | none => pure .none) >>= fun doc => newObj (.type "function") (.func ({ name, qualname := qual, params, body, scope, globals := mainGlobals, closure := clos, closureTuple := ctv, code := .ref c', builtins := bu, defaults := dV, kwdefaults := kV, annotations := none, pyModule := nm.getD .none, doc } : FuncData))
          | .expr _ => pure .none >>= fun doc => newObj (.type "function") (.func ({ name, qualname := qual, params, body, scope, globals := mainGlobals, closure := clos, closureTuple := ctv, code := .ref c', builtins := bu, defaults := dV, kwdefaults := kV, annotations := none, pyModule := nm.getD .none, doc } : FuncData)))) Q E (Sh s h' tk) := by
      intro c' h' tk kb zz r tb
      have hg' : h'.Ns mainGlobals mg := hg.extBut (b := P) (fun b o n e => kb b o n e) hgP
      refine wpAny_bind (wpAny_builtinsFor hg' hbm hne0 (kb _ _ hbP hbo) hcls hdict hdata ?_)
      refine wpAny_bind (wpAny_nsGet hg' ?_)
      have fin : ∀ doc tk', wpAny M A (newObj (.type "function") (.func ({ name, qualname := qual, params, body, scope, globals := mainGlobals, closure := clos, closureTuple := ctv, code := .ref c', builtins := builtinsNs, defaults := dV, kwdefaults := kV, annotations := none, pyModule := (mg "__name__").getD .none, doc } : FuncData))) Q E (Sh s h' tk') := by
        intro doc tk'
        refine wpAny_newObj_type ?_ (by size_fits)
        have kp : KpB P h' (h'.push { cls := .type "function", data := .func (fdOf name qual params body scope clos dV kV doc ((mg "__name__").getD .none) (.ref c') ctv) }) := fun b o _ e => Heap.get?_push_of_some _ e
        obtain ⟨ps', e1, e2, e3⟩ := tb
        refine h h'.objs.size c' ctv doc _ _ (kb.trans kp) zz (Heap.get?_push_size _ rfl) (hR _ _ _ _ _ ⟨ps', e1⟩ kp r) ⟨ps', Heap.get?_push_of_some _ e1, e2, fun l k cv e => ?_⟩
        obtain ⟨cc, q1, q2⟩ := e3 l k cv e
        exact ⟨cc, q1, hR _ _ _ _ _ ⟨ps', e1⟩ kp q2⟩
      cases body with
      | expr _ => exact wpAny_bind (wpAny_pure (fin _ _))
      | stmts b =>
        dsimp only
        cases docOf b with
        | none => exact wpAny_bind (wpAny_pure (fin _ _))
        | some t => exact wpAny_bind (wpAny_mkText (fin _ _))
    cases hq : codeAmong pos ps.toList with
    | none =>
      refine wpAny_bind (wpAny_functionCodeX hcode (C₁.code hP₁ ht) (C₁.tab hP₁) hq fun c' h' tk hx hge hlt _ hrec htb hc2 => ?_)
      obtain ⟨P', hP'ge, hic, hta⟩ := hc2
      have kb : KpB P s.heap h' := fun b o n e => hx b o n (k₁ _ _ e)
      have cd : Cd h' c' qual := by
        obtain ⟨⟨o, vs, a1, a2, a3, _⟩, _⟩ := hta
        obtain ⟨c2, o2, vs2, t2, b1, b2, b3, b4⟩ := hrec
        cases b1
        rw [a1] at b2; cases b2
        exact ⟨o, vs2, t2, a1, a2, b3, b4⟩
      have r : R pos.line pos.col c' h' := hnew c' P' h' kb (Nat.le_trans z₁ hP'ge) cd (CodeHd.of hic hta) hta.2
      refine tail c' h' tk kb (Nat.le_trans z₁ (Nat.le_of_lt (Nat.lt_of_le_of_lt hge hlt))) r ⟨_, htb.2, by simpa using TriplesOk_snoc _ _ _ _ ht, fun l k cv e => ?_⟩
      rw [Array.toList_append] at e
      rcases codeAmong_snoc_cases _ ht e with e | ⟨e1, e2, rfl⟩
      · obtain ⟨cc, q1, q2⟩ := hall l k cv e
        exact ⟨cc, q1, hR _ _ _ _ _ ⟨ps, hP⟩ kb q2⟩
      · have e1' : pos.line = l := by (dsimp only at e1; omega)
        have e2' : pos.col = k := by (dsimp only at e2; omega)
        subst e1' e2'
        exact ⟨c', rfl, r⟩
    | some cv =>
      refine wpAny_bind (wpAny_functionCode_hit hcode (C₁.code hP₁ ht) hq ?_)
      rw [codeAmong_pos] at hq
      obtain ⟨cc, rfl, q2⟩ := hall _ _ _ hq
      have kb : KpB P s.heap h₁ := fun b o n e => k₁ _ _ e
      refine tail cc h₁ _ kb z₁ (hR _ _ _ _ _ ⟨ps, hP⟩ kb q2) ⟨ps, hP₁, ht, fun l k cv e => ?_⟩
      obtain ⟨c2, q1, q3⟩ := hall l k cv e
      exact ⟨c2, q1, hR _ _ _ _ _ ⟨ps, hP⟩ kb q3⟩
  cases clos with
  | nil =>
    simp only [List.isEmpty_nil, if_true]
    exact wpAny_bind (wpAny_pure (step .none s.heap (fun _ _ e => e) (Nat.le_refl _)))
  | cons q r =>
    simp only [List.isEmpty_cons, Bool.false_eq_true, if_false]
    refine wpAny_bind (wpAny_newTextTuple ?_)
    refine step _ (s.heap.push _) (fun b o e => Heap.get?_push_of_some _ e) ?_
    rw [Heap.size_push]
    exact Nat.le_succ _
end
end Mine

-- B5
namespace Mine
open PySem PySem.W PyProof.Rows PySem.Spec PySem.Calls
noncomputable def Kf (h h' : Heap) : Prop := ∀ b o, h.get? b = some o → h'.get? b = some o
theorem Kf.kp {h h' : Heap} (k : Kf h h') : Kp h h' := fun b o e _ => k b o e
theorem Kf.kpb {h h' : Heap} (k : Kf h h') (P : Addr) : KpB P h h' := fun b o _ e => k b o e
theorem Kf.trans {h h' h'' : Heap} (a : Kf h h') (b : Kf h' h'') : Kf h h'' := fun x o e => b x o (a x o e)
theorem cellsFrom_acc : ∀ (names : List (Str × NameKind)) (n : Nat) (acc : List (Str × Addr)), cellsFrom n names acc = cellsFrom n names [] ++ acc
  | [], _, _ => rfl
  | (name, kind) :: r, n, acc => by
    unfold cellsFrom
    split
    · rw [cellsFrom_acc r (n + 1) ((name, n) :: acc), cellsFrom_acc r (n + 1) [(name, n)], List.append_assoc]; rfl
    · exact cellsFrom_acc r n acc
section
variable {B h h' : Heap} {L P : Addr} {m : Str → Option Value} {news : List (Addr × Obj)}
theorem Fr.kpb (F : Fr B L h m) (k : KpB P h h') (hL : L ≠ P) (hB : B.get? P = none) : Fr B L h' m := by
  obtain ⟨oL, es, ep, hoL, r⟩ := F.ns
  refine ⟨⟨oL, es, ep, k _ _ hL hoL, r⟩, fun b o e => k b o (by rintro rfl; rw [hB] at e; cases e) (F.keep b o e), F.above⟩
theorem News.kpb (N : News B L h news) (k : KpB P h h') (hn : ∀ p ∈ news, p.1 ≠ P) : News B L h' news := fun p hp => ⟨k _ _ (hn p hp) (N p hp).1, (N p hp).2⟩
theorem News.cons {a : Addr} {o : Obj} (N : News B L h news) (e : h.get? a = some o) (hn : B.get? a = none) (hL : a ≠ L) : News B L h ((a, o) :: news) := fun p hp => by
  rcases List.mem_cons.mp hp with rfl | hp
  · exact ⟨e, hL, hn⟩
  · exact N p hp
theorem Fr.fresh (F : Fr B L h m) {b : Addr} (hb : L < b) : B.get? b = none := Heap.get?_none_of_le (Nat.le_trans F.above (Nat.le_of_lt hb))
end
section
variable {M : Model} {A : Around} {E : Value → Shared → Prop} {env : Env} {f : Str × Value → PUnit → Sem (ForInStep PUnit)}
/-- names that are locals are stored one behind the other, whatever cells the frame has -/
theorem storeAll (hf : ∀ n v u, f (n, v) u = (do storeName env n v; pure (.yield ⟨⟩))) (hp : (env.scope.kind == .class || (env.scope.kind == .module && env.locals != env.globals)) = false) :
    ∀ (todo done : List (Str × Value)) (s : Shared) (Q : PUnit → Shared → Prop), (∀ y ∈ todo, env.kindOf y.1 = some .local) → s.heap.Ns env.locals (fun x => done.reverse.lookup x) →
      (∀ h', h'.Ns env.locals (fun x => (done ++ todo).reverse.lookup x) → Heap.SameBut env.locals s.heap h' → Q ⟨⟩ { s with heap := h', toks := s.toks + todo.length }) → wpAny M A (forIn todo ⟨⟩ f) Q E s
  | [], done, s, Q, _, hn, hq => wpAny_pure (hq s.heap (by rwa [List.append_nil]) (.refl ..))
  | (n, v) :: r, done, s, Q, hl, hn, hq => by
    rw [List.forIn_cons, hf, storeName_local (hl _ (.head _)) hp]
    refine wpAny_bind (wpAny_bind (wpAny_nsSet hn fun h₁ n₁ s₁ => wpAny_pure ?_))
    refine storeAll hf hp r (done ++ [(n, v)]) _ Q (fun y hy => hl y (.tail _ hy)) (by rw [lookup_reverse_snoc]; exact n₁) fun h' n' s' => ?_
    rw [List.append_assoc] at n'
    have := hq h' n' (s₁.trans s')
    rw [List.length_cons, Nat.add_comm r.length, ← Nat.add_assoc] at this
    exact this
end
section
variable {w : World} {A : Around} {E Q : Value → Shared → Prop} {R : Result → Shared → Prop} {s : Shared} {B : Heap} {f : Addr} {args : List Value} {binds : List (Str × Value)}
  {name qual : Str} {params : Arguments} {body : List Stmt} {scope : Scope} {dV kV doc pm cdv ct oc : Value} {an od : Option Addr} {osl : Array (Option Value)} {cl : List (Str × Addr)}
/-- the call of a def with a closure and any cells of its own (the parameters are none): its frame, its cells, all empty, and its body -/
theorem enterG (bs : Bs B s.heap) (hlim : s.heap.NoLimit)
    (ho : s.heap.get? f = some ⟨oc, od, .func (fnX name qual params body scope cl dV kV doc pm an cdv ct), osl⟩) (hcd : s.heap.CodeRec cdv qual) (hroom : A.depth < recursionLimit)
    (hbind : BindsTo s (fnX name qual params body scope cl dV kV doc pm an cdv ct) ⟨args, []⟩ binds) (hloc : ∀ y ∈ binds, scope.names.lookup y.1 = some .local) {cs : Nat → List (Str × Addr)}
    (hcs : ∀ n, cellsFrom n scope.names [] = cs n)
    (h : ∀ L h₁, Fr B L h₁ (fun y => binds.reverse.lookup y) → (∀ q ∈ cs (L + 1), @LT.lt Nat _ L q.2 ∧ h₁.IsCell q.2 none) → s.heap.objs.size ≤ L → Kf s.heap h₁ →
      wpAny (model PG w) (A.deeper (envX qual scope L f cdv (cs (L + 1) ++ cl))) (execs body (envX qual scope L f cdv (cs (L + 1) ++ cl)))
        (fun fl s' => R (.ok (.ret (match fl with | .ret v => v | _ => .none))) s') (fun _ _ => False) { s with heap := h₁, toks := s.toks + binds.length })
    (hco : scope.isCoroutine = false) (hgen : scope.isGenerator = false) (hk : scope.kind = .function) :
    codeAny (model PG w) A (.call (.ref f) ⟨args, []⟩) R s := by
  refine codeAny_call_function hroom ho rfl hco hgen rfl hcd (hbind _ _ _ _ ?_)
  unfold newFunctionEnv
  refine wpAny_bind (wpAny_alloc ?_)
  obtain ⟨H, hH⟩ : ∃ H, H = s.heap.push { cls := .type "frame", data := .dict #[] } := ⟨_, rfl⟩
  have zH : H.objs.size = s.heap.objs.size + 1 := by rw [hH]; exact Heap.size_push ..
  have lay := cellsFrom_ok scope.names H (s.heap.objs.size + 1) [] ⟨fun _ _ m => (nomatch m), .nil⟩ (Nat.le_of_eq zH.symm)
  have old : Kf s.heap (pushCells H scope.names) := fun b o e => pushCells_keeps _ _ b o (hH ▸ Heap.get?_push_of_some _ e)
  have ns : (pushCells H scope.names).Ns s.heap.objs.size (fun _ => none) := (hH ▸ Heap.Ns.new s.heap (.type "frame")).keeps (pushCells_keeps _ _)
  rw [hcs, zH] at lay
  show wpAny _ _ _ _ _ { s with heap := s.heap.push { cls := .type "frame", data := .dict #[] } }
  rw [← hH]
  refine wpAny_bind (wpAny_layCells _ (fun _ kind _ => by cases kind <;> rfl) _ _ _ _ ?_)
  rw [cellsFrom_acc, hcs]
  dsimp only
  rw [zH]
  refine wpAny_bind (storeAll (env := envX qual scope s.heap.objs.size f cdv (cs (s.heap.objs.size + 1) ++ cl)) (fun _ _ _ => rfl) (by show (scope.kind == .class || (scope.kind == .module && _)) = false; rw [hk]; rfl)
    binds [] _ _ hloc ns fun h' n' sb => ?_)
  have kf : Kf s.heap h' := fun b o e => sb.extBut b o (Nat.ne_of_lt (Heap.lt_size e)) (old b o e)
  refine wpAny_pure ⟨hlim.keeps kf, codeAny_func (wpAny_mono (h s.heap.objs.size h' ⟨n', fun b o e => kf b o (bs.sub b o e), bs.size⟩ (fun q hq => ?_) (Nat.le_refl _) kf) (fun _ _ x => x) fun _ _ x => x.elim)⟩
  obtain ⟨⟨o, e, d⟩, l⟩ := lay.empty q.1 q.2 hq
  exact ⟨l, o, sb.extBut _ _ (Nat.ne_of_gt l) e, d⟩
/-- a def with two cells of its own (the parameters are no cells) and a closure -/
theorem enter2 (bs : Bs B s.heap) (hlim : s.heap.NoLimit)
    (ho : s.heap.get? f = some ⟨oc, od, .func (fnX name qual params body scope cl dV kV doc pm an cdv ct), osl⟩) (hcd : s.heap.CodeRec cdv qual) (hroom : A.depth < recursionLimit)
    (hbind : BindsTo s (fnX name qual params body scope cl dV kV doc pm an cdv ct) ⟨args, []⟩ binds) (hloc : ∀ y ∈ binds, scope.names.lookup y.1 = some .local) {x y : Str}
    (hc2 : ∀ n, cellsFrom n scope.names [] = [(y, n + 1), (x, n)])
    (h : ∀ L h₁ ox oy, Fr B L h₁ (fun y => binds.reverse.lookup y) → News B L h₁ [(L + 1 + 1, oy), (L + 1, ox)] → oy.data = .cell none → ox.data = .cell none → s.heap.objs.size ≤ L → Kf s.heap h₁ →
      wpAny (model PG w) (A.deeper (envX qual scope L f cdv ((y, L + 1 + 1) :: (x, L + 1) :: cl))) (execs body (envX qual scope L f cdv ((y, L + 1 + 1) :: (x, L + 1) :: cl)))
        (fun fl s' => Q (match fl with | .ret v => v | _ => .none) s') (fun _ _ => False)
        { s with heap := h₁, toks := s.toks + binds.length })
    (hco : scope.isCoroutine = false := by rfl) (hgen : scope.isGenerator = false := by rfl) (hk : scope.kind = .function := by rfl) :
    wpAny (model PG w) A (call (.ref f) args) Q E s := by
  refine wpAny_call (enterG bs hlim ho hcd hroom hbind hloc hc2 (fun L h₁ F c hL kf => ?_) hco hgen hk)
  obtain ⟨ly, oy, ey, dy⟩ := c _ (.head _)
  obtain ⟨lx, ox, ex, dx⟩ := c _ (.tail _ (.head _))
  exact h L h₁ ox oy F (News.cons (News.cons News.nil ex (Mine.Fr.fresh F lx) (Nat.ne_of_gt lx)) ey (Mine.Fr.fresh F ly) (Nat.ne_of_gt ly)) dy dx hL kf
/-- a def with one cell of its own (no parameter), the call's code -/
theorem enterCc (bs : Bs B s.heap) (hlim : s.heap.NoLimit)
    (ho : s.heap.get? f = some ⟨oc, od, .func (fnX name qual params body scope cl dV kV doc pm an cdv ct), osl⟩) (hcd : s.heap.CodeRec cdv qual) (hroom : A.depth < recursionLimit)
    (hbind : BindsTo s (fnX name qual params body scope cl dV kV doc pm an cdv ct) ⟨args, []⟩ binds) (hloc : ∀ y ∈ binds, scope.names.lookup y.1 = some .local) {x : Str}
    (hc2 : ∀ n, cellsFrom n scope.names [] = [(x, n)])
    (h : ∀ L h₁ ox, Fr B L h₁ (fun y => binds.reverse.lookup y) → News B L h₁ [(L + 1, ox)] → ox.data = .cell none → s.heap.objs.size ≤ L → Kf s.heap h₁ →
      wpAny (model PG w) (A.deeper (envX qual scope L f cdv ((x, L + 1) :: cl))) (execs body (envX qual scope L f cdv ((x, L + 1) :: cl)))
        (fun fl s' => R (.ok (.ret (match fl with | .ret v => v | _ => .none))) s') (fun _ _ => False)
        { s with heap := h₁, toks := s.toks + binds.length })
    (hco : scope.isCoroutine = false := by rfl) (hgen : scope.isGenerator = false := by rfl) (hk : scope.kind = .function := by rfl) :
    codeAny (model PG w) A (.call (.ref f) ⟨args, []⟩) R s := by
  refine enterG bs hlim ho hcd hroom hbind hloc hc2 (fun L h₁ F c hL kf => ?_) hco hgen hk
  obtain ⟨lx, ox, ex, dx⟩ := c _ (.head _)
  exact h L h₁ ox F (News.cons News.nil ex (Mine.Fr.fresh F lx) (Nat.ne_of_gt lx)) dx hL kf
/-- a def with one cell of its own (no parameter) -/
theorem enterC (bs : Bs B s.heap) (hlim : s.heap.NoLimit)
    (ho : s.heap.get? f = some ⟨oc, od, .func (fnX name qual params body scope cl dV kV doc pm an cdv ct), osl⟩) (hcd : s.heap.CodeRec cdv qual) (hroom : A.depth < recursionLimit)
    (hbind : BindsTo s (fnX name qual params body scope cl dV kV doc pm an cdv ct) ⟨args, []⟩ binds) (hloc : ∀ y ∈ binds, scope.names.lookup y.1 = some .local) {x : Str}
    (hc2 : ∀ n, cellsFrom n scope.names [] = [(x, n)])
    (h : ∀ L h₁ ox, Fr B L h₁ (fun y => binds.reverse.lookup y) → News B L h₁ [(L + 1, ox)] → ox.data = .cell none → s.heap.objs.size ≤ L → Kf s.heap h₁ →
      wpAny (model PG w) (A.deeper (envX qual scope L f cdv ((x, L + 1) :: cl))) (execs body (envX qual scope L f cdv ((x, L + 1) :: cl)))
        (fun fl s' => Q (match fl with | .ret v => v | _ => .none) s') (fun _ _ => False)
        { s with heap := h₁, toks := s.toks + binds.length })
    (hco : scope.isCoroutine = false := by rfl) (hgen : scope.isGenerator = false := by rfl) (hk : scope.kind = .function := by rfl) :
    wpAny (model PG w) A (call (.ref f) args) Q E s := wpAny_call (enterCc bs hlim ho hcd hroom hbind hloc hc2 h hco hgen hk)
end
end Mine

-- B6
namespace Mine
open PySem PySem.W PyProof.Rows PySem.Spec PySem.Calls
/-- the walk stops here -/
noncomputable def Stop (p : Prop) : Prop := p
theorem stop_intro {p : Prop} (h : Stop p) : p := h
theorem Stop.go {p : Prop} (h : p) : Stop p := h
theorem IsCell.kp {h h' : Heap} {c : Addr} {v : Option Value} (x : h.IsCell c v) (k : Kp h h') : h'.IsCell c v :=
  let ⟨o, e, d⟩ := x; ⟨o, k _ _ e (by unfold isTab; rw [d]; cases o.cls <;> rfl), d⟩
theorem IsCell.gh {h : Heap} {c : Addr} {v : Option Value} (x : h.IsCell c v) : (gh h).IsCell c v :=
  let ⟨o, e, d⟩ := x; ⟨o, gh_get.mpr ⟨e, by unfold isTab; rw [d]; cases o.cls <;> rfl⟩, d⟩
section
variable {M : Model} {A : Around} {E : Value → Shared → Prop} {s : Shared} {h₀ : Heap} {L a c : Addr} {m : Str → Option Value} {cn : Str} {cs : Scope} {ccd : Value} {cl : List (Str × Addr)} {x : Str} {pos : Pos} {v : Value} {Q : Value → Shared → Prop}
theorem nameX_Fb (F : Fr h₀ L s.heap m) (hc : cl.lookup x = some c) (hv : h₀.IsCell c (some v)) (h : Q v s)
    (hk : cs.kind = .function := by rfl) (hx : (envX cn cs L a ccd cl).kindOf x = some .free := by rfl) (hb : (x == ("__debug__" : Str)) = false := by decide) (hn : (x == ("__classdict__" : Str)) = false := by decide) :
    wpAny M A (eval (.Name x pos) (envX cn cs L a ccd cl)) Q E s := wpAny_Name (wpAny_loadName_free hk hx hc (hv.keeps F.keep) h hn) hb
end
section
variable {prog : Program} {w : World} {A : Around} {E : Value → Shared → Prop} {s : Shared} {env : Env}
theorem while_rule {test : Expr} {body : List Stmt} {pos : Pos} {Q : Flow → Shared → Prop} (I : Nat → Shared → Prop) (R : Shared → Prop) (n : Nat) (h0 : I n s)
    (turn : ∀ n s, I n s → wpAny (model prog w) A (isTrue test env (eval test env)) (fun b s₂ =>
      if b = true then wpAny (model prog w) A (execs body env) (fun f s₃ => match f with
        | .next | .cont => Stop (∃ m, m < n ∧ I m s₃)
        | .brk => Stop (R s₃)
        | .ret v => Q (.ret v) s₃) (fun _ _ => False) s₂
      else Stop (R s₂)) (fun _ _ => False) s) (after : ∀ s, R s → Q .next s) :
    wpAny (model prog w) A (exec (.While test body [] pos) env) Q E s := by
  refine wpAny_While (codeAny_whileLoop I (fun n s hI => ?_) n h0)
  refine wpAny_mono (turn n s hI) (fun b s₂ h₂ => ?_) fun _ _ x => x.elim
  cases b with
  | true =>
    simp only [if_true] at h₂ ⊢
    refine wpAny_mono h₂ (fun f s₃ h₃ => ?_) fun _ _ x => x.elim
    cases f with
    | next => exact h₃
    | cont => exact h₃
    | brk => exact after _ h₃
    | ret v => exact h₃
  | false =>
    simp only [Bool.false_eq_true, if_false] at h₂ ⊢
    exact wpAny_execs_nil (after _ h₂)
end
end Mine
namespace Mine
open PySem PySem.W PyProof.Rows PySem.Spec PySem.Calls
section
variable {prog : Program} {w : World} {A : Around} {E : Value → Shared → Prop} {s : Shared} {value slice : PySem.Expr} {x : PySem.Str} {t u : Tok} {i c : Nat} {Q : Value → Shared → Prop}
theorem txt_item (hi : x.cps[i]? = some c) : Txt.item x (i : Int) = ⟨#[c]⟩ := by
  have hlt : i < x.cps.size := (Array.getElem?_eq_some_iff.mp hi).1
  have e : seqIndex? (i : Int) x.length = some i := by
    have hl : x.length = x.cps.size := rfl
    simp [seqIndex?]
    omega
  unfold Txt.item Txt.charAt
  rw [e]
  simp [hi]
theorem item_at (hi : x.cps[i]? = some c) (hz : x.cps.size ≤ 1000) (h : Q (.str ⟨#[c]⟩ s.toks) { s with toks := s.toks + 1 })
    (hs : subscripted slice false (.str x t) (.int (i : Int) u) = operate [.str x t, .int (i : Int) u] (getItem (.str x t) (.int (i : Int) u)) := by with_unfolding_all rfl)
    (ht : ∀ r, letTemporaryGo value (.str x t) r = pure () := by intro _; with_unfolding_all rfl) :
    wpAny (model prog w) A (subscriptTail value slice (.str x t) (.int (i : Int) u)) Q E s := by
  have hlt : i < x.cps.size := (Array.getElem?_eq_some_iff.mp hi).1
  have hl : x.length = x.cps.size := rfl
  refine item_str (fitsSsize_of (N := 9223372036854775808) (by omega) (by omega) (Int.le_refl _)) (by omega) (by omega) (fun _ => ?_) hs ht
  rw [txt_item hi]; exact h
theorem len_at (hz : x.cps.size ≤ 1000) (h : ∀ tk tk', Q (.int (x.cps.size : Nat) tk) { s with toks := tk' }) : wpAny (model prog w) A (call (.builtin "len") [.str x t]) Q E s := by
  have hl : x.length = x.cps.size := rfl
  exact PyProof.Rows.len_str (by omega) (h _ _)
theorem item_lt (hlt : i < x.cps.size) (hz : x.cps.size ≤ 1000) (h : ∀ c, x.cps[i]? = some c → Q (.str ⟨#[c]⟩ s.toks) { s with toks := s.toks + 1 })
    (hs : subscripted slice false (.str x t) (.int (i : Int) u) = operate [.str x t, .int (i : Int) u] (getItem (.str x t) (.int (i : Int) u)) := by with_unfolding_all rfl)
    (ht : ∀ r, letTemporaryGo value (.str x t) r = pure () := by intro _; with_unfolding_all rfl) :
    wpAny (model prog w) A (subscriptTail value slice (.str x t) (.int (i : Int) u)) Q E s :=
  item_at (Array.getElem?_eq_getElem hlt) hz (h _ (Array.getElem?_eq_getElem hlt)) hs ht
theorem in_one {y : PySem.Str} (h : Q (.bool (y.cps.toList.contains c)) s) : wpAny (model prog w) A (compareOp .In (.str ⟨#[c]⟩ u) (.str y t)) Q E s := by
  refine PyProof.Rows.in_str ?_
  rw [StrLaws.found_one]
  simpa using h
theorem notIn_one {y : PySem.Str} (h : Q (.bool (!(y.cps.toList.contains c))) s) : wpAny (model prog w) A (compareOp .NotIn (.str ⟨#[c]⟩ u) (.str y t)) Q E s := by
  refine PyProof.Rows.notIn_str ?_
  rw [StrLaws.found_one]
  simpa using h
end
section
variable {M : Model} {w : World} {A : Around} {E Q : Value → Shared → Prop} {s : Shared} {name qual : Str} {params : Arguments} {body : FuncBody} {scope : Scope} {env : Env} {c P : Addr} {pos : Pos} {firstLine : Nat} {mg mb : Str → Option Value}
  {clos : List (Str × Addr)} {R : Nat → Nat → Addr → Heap → Prop}
theorem mkFn0 (G : Gd w mg mb s.heap)
    (hR : ∀ h h' l k c, (∃ ps, h.get? P = some (tabObj ps)) → KpB P h h' → R l k c h → R l k c h')
    (hcl : closureFor scope env = pure clos) (hge0 : env.globals = mainGlobals) (hcode : env.code = .ref c) (C : CodeHd s.heap c P) (T : Tab R s.heap P)
    (hnew : ∀ c' P' h', KpB P s.heap h' → s.heap.objs.size ≤ P' → Cd h' c' qual → CodeHd h' c' P' → h'.get? P' = some (tabObj #[]) → R pos.line pos.col c' h')
    (h : ∀ f c' ctv doc h' tk, KpB P s.heap h' → s.heap.objs.size ≤ f → h'.get? f = some ⟨.type "function", none, .func (fdOf name qual params body scope clos .none .none doc ((mg "__name__").getD .none) (.ref c') ctv), #[]⟩ →
      R pos.line pos.col c' h' → Tab R h' P → Q (.ref f) (Sh s h' tk)) :
    wpAny M A (makeFunction name qual params body scope env [] [] [] pos firstLine) Q E s := by
  rw [makeFunction_eq]
  simp only [List.zip_nil_right, List.filterMap_nil, List.isEmpty_nil, if_true, pure_bind]
  exact mkTail G hR hcl hge0 hcode C T hnew h
/-- with one default -/
theorem mkFn1 {d : Value} (G : Gd w mg mb s.heap)
    (hR : ∀ h h' l k c, (∃ ps, h.get? P = some (tabObj ps)) → KpB P h h' → R l k c h → R l k c h')
    (hcl : closureFor scope env = pure clos) (hge0 : env.globals = mainGlobals) (hcode : env.code = .ref c) (C : CodeHd s.heap c P) (T : Tab R s.heap P)
    (hnew : ∀ c' P' h', KpB P s.heap h' → s.heap.objs.size ≤ P' → Cd h' c' qual → CodeHd h' c' P' → h'.get? P' = some (tabObj #[]) → R pos.line pos.col c' h')
    (h : ∀ f c' ctv doc h' tk T, KpB P s.heap h' → s.heap.objs.size ≤ f → s.heap.objs.size ≤ T → h'.get? T = some ⟨.type "tuple", none, .seq #[d] 0, #[]⟩ → h'.get? f = some ⟨.type "function", none, .func (fdOf name qual params body scope clos (.ref T) .none doc ((mg "__name__").getD .none) (.ref c') ctv), #[]⟩ →
      R pos.line pos.col c' h' → Tab R h' P → Q (.ref f) (Sh s h' tk)) :
    wpAny M A (makeFunction name qual params body scope env [d] [] [] pos firstLine) Q E s := by
  rw [makeFunction_eq]
  simp only [List.zip_nil_right, List.filterMap_nil, List.isEmpty_nil, List.isEmpty_cons, Bool.false_eq_true, if_false, if_true, pure_bind]
  refine wpAny_bind (wpAny_newTextTuple ?_)
  have kf : Kf s.heap (s.heap.push { cls := .type "tuple", data := .seq #[d] }) := fun b o e => Heap.get?_push_of_some _ e
  obtain ⟨ps, e1, e2, e3⟩ := id T
  have T' : Tab R (s.heap.push { cls := .type "tuple", data := .seq #[d] }) P := ⟨ps, kf _ _ e1, e2, fun l k cv e => let ⟨cc, q1, q2⟩ := e3 l k cv e; ⟨cc, q1, hR _ _ _ _ _ ⟨ps, e1⟩ (kf.kpb P) q2⟩⟩
  have hne : s.heap.objs.size ≠ P := Nat.ne_of_gt (Heap.lt_size e1)
  refine mkTail (s := { s with heap := s.heap.push { cls := .type "tuple", data := .seq #[d] } }) (G.kp kf.kp) hR hcl hge0 hcode (C.keeps kf) T'
    (fun c' P' h' k z cd ch t0 => hnew c' P' h' ((kf.kpb P).trans k) (Nat.le_trans (by rw [Heap.size_push]; omega) z) cd ch t0) ?_
  intro f c' ctv doc h' tk k z e r t
  exact h f c' ctv doc h' tk s.heap.objs.size ((kf.kpb P).trans k) (Nat.le_trans (by rw [Heap.size_push]; omega) z) (Nat.le_refl _) (k _ _ hne (Heap.get?_push_size _ rfl)) e r t
end
theorem Kp.of_gP {P : Addr} {h h' : Heap} {ps : Array Value} (t : h.get? P = some (tabObj ps)) (k : ∀ b o, (gP P h).get? b = some o → h'.get? b = some o) : Kp h h' :=
  fun b o e i => k b o (gP_get e (by rintro rfl; rw [t] at e; cases e; cases i))
theorem KpB.of_gP {P : Addr} {h h' : Heap} (k : ∀ b o, (gP P h).get? b = some o → h'.get? b = some o) : KpB P h h' := fun b o n e => k b o (gP_get e n)
/-! Invariants behind a letter, told by their use: no chain of exists and and is taken apart (it would be copied at each link). -/
theorem letter1 {α : Type} {G : Prop} (W : α → Prop → Prop) (k : ∀ I : α → Prop, (∀ a, (∀ Q : Prop, W a Q → Q) → I a) → (∀ (a : α) (Q : Prop), I a → W a Q → Q) → G) : G :=
  k (fun a => ∀ Q : Prop, W a Q → Q) (fun _ h => h) fun _ Q h f => h Q f
theorem letter2 {α β : Type} {G : Prop} (W : α → β → Prop → Prop) (k : ∀ I : α → β → Prop, (∀ a b, (∀ Q : Prop, W a b Q → Q) → I a b) → (∀ (a : α) (b : β) (Q : Prop), I a b → W a b Q → Q) → G) : G :=
  k (fun a b => ∀ Q : Prop, W a b Q → Q) (fun _ _ h => h) fun _ _ Q h f => h Q f
theorem letter3 {α β γ : Type} {G : Prop} (W : α → β → γ → Prop → Prop) (k : ∀ I : α → β → γ → Prop, (∀ a b c, (∀ Q : Prop, W a b c Q → Q) → I a b c) → (∀ (a : α) (b : β) (c : γ) (Q : Prop), I a b c → W a b c Q → Q) → G) : G :=
  k (fun a b c => ∀ Q : Prop, W a b c Q → Q) (fun _ _ _ h => h) fun _ _ _ Q h f => h Q f
end Mine

-- S0
namespace Mine
open PySem PySem.W PyProof.Rows PySem.Spec PySem.Calls
noncomputable def qSearch : Str := "_law_program.<locals>.search"
noncomputable def qLamS : Str := qSearch ++ ".<locals>." ++ "<lambda>"
/-- the codes of search's lambdas -/
noncomputable def RS (_ _ : Nat) (c : Addr) (h : Heap) : Prop := Cd h c qLamS
/-- the first place from i on, k places at most, where b answers so -/
noncomputable def skipTo (b : Nat → Bool) (want : Bool) : Nat → Nat → Nat
  | 0, i => i
  | k + 1, i => if b i = want then i else skipTo b want k (i + 1)
/-- the next run of signs that are among the letters -/
noncomputable def runFrom (cs ls : List Nat) (i : Nat) : Option (Nat × Nat) :=
  let b := fun i => ls.contains (cs.getD i 0)
  let f := skipTo b true (cs.length - i) i
  let e := skipTo b false (cs.length - f) f
  if f = e then none else some (f, e)
noncomputable def SpanFn (w : World) (h : Heap) (g : Addr) (a b : Int) : Prop :=
  (∃ fd, h.get? g = some ⟨.type "function", none, .func fd, #[]⟩) ∧
  ∀ (s : Shared) (A : Around) (Q E : Value → Shared → Prop), Kp h s.heap → s.heap.NoLimit → Rm A 360 400 →
    (∀ tA h' tk t1 t2, Kf s.heap h' → s.heap.objs.size ≤ tA → h'.get? tA = some ⟨.type "tuple", none, .seq #[.int a t1, .int b t2] 0, #[]⟩ → Q (.ref tA) (Sh s h' tk)) →
    wpAny (model PG w) A (call (.ref g) []) Q E s
noncomputable def HitAt (w : World) (h : Heap) (f : Addr) (a b : Int) : Prop :=
  ∃ D m g fd, h.get? f = some ⟨.type "function", some D, .func fd, #[]⟩ ∧ h.Ns D m ∧ m "span" = some (.ref g) ∧ SpanFn w h g a b
/-- an object that no table is and no code -/
noncomputable def Off (h : Heap) (a : Addr) : Prop := ∃ o, h.get? a = some o ∧ isTab o = false ∧ ∀ vs, o.cls = .type "code" → o.data ≠ .fields vs
theorem Off.ns {h : Heap} {a : Addr} {m : Str → Option Value} (x : h.Ns a m) : Off h a :=
  let ⟨o, es, ep, e, d, _⟩ := x; ⟨o, e, by unfold isTab; rw [d]; cases o.cls <;> rfl, fun vs _ q => by rw [d] at q; cases q⟩
theorem Off.kp {h h' : Heap} {a : Addr} (x : Off h a) (k : Kp h h') : Off h' a := let ⟨o, e, i, r⟩ := x; ⟨o, k _ _ e i, i, r⟩
theorem Off.lt {h : Heap} {a : Addr} (x : Off h a) : a < h.objs.size := let ⟨_, e, _⟩ := x; Heap.lt_size e
theorem Off.list {h : Heap} {a : Addr} {vs : Array Value} {n : Nat} (e : h.get? a = some ⟨.type "list", none, .seq vs n, #[]⟩) : Off h a := ⟨_, e, rfl, fun _ _ q => by cases q⟩
noncomputable def SearchFn (w : World) (mg mb : Str → Option Value) (h : Heap) (g : Addr) (letters : Str) (Ps : Addr) : Prop :=
  (∃ fd, h.get? g = some ⟨.type "function", none, .func fd, #[]⟩) ∧
  ∀ (s : Shared) (A : Around) (Q E : Value → Shared → Prop) (chars : Str) (t : Tok) (i : Nat) (args : List Value) (S : List Addr), Kp h s.heap → Gd w mg mb s.heap → Tab RS s.heap Ps → Rm A 350 350 → (∀ a ∈ S, Off s.heap a) →
    chars.cps.size ≤ 1000 → i ≤ chars.cps.size → ((args = [.str chars t] ∧ i = 0) ∨ ∃ u, args = [.str chars t, .int i u]) →
    (∀ v h' tk, KpB Ps s.heap h' → Tab RS h' Ps → (match runFrom chars.cps.toList letters.cps.toList i with | none => v = .none | some (a, b) => ∃ f, v = .ref f ∧ HitAt w (hideAll h' S) f a b) → Q v (Sh s h' tk)) →
    wpAny (model PG w) A (call (.ref g) args) Q E s
theorem HitAt.kp {w : World} {h h' : Heap} {f : Addr} {a b : Int} (x : HitAt w h f a b) (k : Kp h h') : HitAt w h' f a b := by
  obtain ⟨D, m, g, fd, e1, e2, e3, ⟨fd', e4⟩, e5⟩ := x
  exact ⟨D, m, g, fd, k _ _ e1 rfl, Ns.kp e2 k, e3, ⟨fd', k _ _ e4 rfl⟩, fun s A Q E k' => e5 s A Q E (k.trans k')⟩
/-- a lambda without parameters that hands back the pair of two names that it closes over -/
theorem pair_lam {w : World} {h : Heap} {g c cx cy : Addr} {x y nm qual : Str} {params : Arguments} {scope : Scope} {cl : List (Str × Addr)} {doc pm ctv : Value} {p1 p2 p3 : Pos} {kk : Nat} {a b : Int} {t1 t2 : Tok}
    (hg : h.get? g = some ⟨.type "function", none, .func (fdOf nm qual params (.expr (.Tuple [.Name x p1, .Name y p2] kk p3)) scope cl .none .none doc pm (.ref c) ctv), #[]⟩)
    (hc : Cd h c qual) (hx : cl.lookup x = some cx) (hy : cl.lookup y = some cy) (ix : h.IsCell cx (some (.int a t1))) (iy : h.IsCell cy (some (.int b t2)))
    (hb : bindArgs (fdOf nm qual params (.expr (.Tuple [.Name x p1, .Name y p2] kk p3)) scope cl .none .none doc pm (.ref c) ctv) ⟨[], []⟩ = pure [])
    (kx : scope.names.lookup x = some .free) (ky : scope.names.lookup y = some .free) (hcell : ∀ x ∈ scope.names, x.2 ≠ .cell)
    (hco : scope.isCoroutine = false) (hgen : scope.isGenerator = false) (hk : scope.kind = .function)
    (d1 : (x == ("__debug__" : Str)) = false) (d2 : (y == ("__debug__" : Str)) = false) (n1 : (x == ("__classdict__" : Str)) = false) (n2 : (y == ("__classdict__" : Str)) = false) : SpanFn w h g a b := by
  refine ⟨⟨_, hg⟩, fun s A Q E k hl rm hq => rm.any ?_⟩
  refine wpAny_call (kla_callFunE (by decide) (k _ _ hg rfl) rfl hco hgen rfl (hc.kp k).rec ?_)
  rw [hb]
  refine wpAny_pure (wpAny_newFunctionEnv hcell (fun _ hx => (nomatch hx)) (fun h₁ hns hsb => ?_) hk)
  have kf : Kf s.heap h₁ := fun b o e => hsb.extBut b o (Nat.ne_of_lt (Heap.lt_size e)) (Heap.get?_push_of_some _ e)
  refine ⟨hl.keeps kf, ?_⟩
  have ix' : h₁.IsCell cx (some (.int a t1)) := (IsCell.kp ix k).keeps kf
  have iy' : h₁.IsCell cy (some (.int b t2)) := (IsCell.kp iy k).keeps kf
  show codeAny _ _ (.expr _ (envX qual scope s.heap.objs.size g (.ref c) cl)) _ _
  refine kla_codeExpr (Tuple_ ?_)
  show wpAny _ _ (spliced [(false, eval (.Name x p1) (envX qual scope s.heap.objs.size g (.ref c) cl)), (false, eval (.Name y p2) (envX qual scope s.heap.objs.size g (.ref c) cl))]) _ _ _
  refine spliced_cons (wpAny_Name (wpAny_loadName_free hk kx hx ix' ?_ n1) d1)
  refine spliced_cons (wpAny_Name (wpAny_loadName_free hk ky hy iy' ?_ n2) d2)
  refine spliced_nil ?_
  refine wpAny_newObj_type ?_ (by size_fits)
  have hsz : s.heap.objs.size ≤ h₁.objs.size := Nat.le_of_lt hns.lt
  exact hq h₁.objs.size _ _ t1 t2 (fun b o e => Heap.get?_push_of_some _ (kf b o e)) hsz (Heap.get?_push_size _ rfl)
theorem lk_same {K : Frag} {a : Addr} {o o' : Obj} (h : K.lookup a = some o) (h' : K.lookup a = some o') : o = o' := Option.some.inj (h.symm.trans h')
theorem with_bind {w : World} {A : Around} {Q E : Value → Shared → Prop} {s : Shared} {fd : FuncData} {g : Addr} {chars : Str} {t t0 : Tok} {i : Nat} {args : List Value}
    (hg : s.heap.get? g = some ⟨.type "function", none, .func fd, #[]⟩) (h1 : BindsTo s fd ⟨[.str chars t], []⟩ [("chars", .str chars t), ("start", .int 0 t0)])
    (h2 : ∀ u, BindsTo s fd ⟨[.str chars t, .int i u], []⟩ [("chars", .str chars t), ("start", .int i u)]) (ha : (args = [.str chars t] ∧ i = 0) ∨ ∃ u, args = [.str chars t, .int i u])
    (k : ∀ u args, BindsTo s fd ⟨args, []⟩ [("chars", .str chars t), ("start", .int i u)] → wpAny (model PG w) A (call (.ref g) args) Q E s) : wpAny (model PG w) A (call (.ref g) args) Q E s := by
  rcases ha with ⟨rfl, rfl⟩ | ⟨u, rfl⟩
  · exact k t0 _ h1
  · exact k u _ (h2 u)
theorem Cd.butNs {h h' : Heap} {c L : Addr} {q : Str} {m : Str → Option Value} (x : Cd h c q) (n : h.Ns L m) (k : KpB L h h') : Cd h' c q := by
  obtain ⟨o, vs, t, e, hc, hd, r⟩ := x
  refine ⟨o, vs, t, k _ _ ?_ e, hc, hd, r⟩
  rintro rfl
  obtain ⟨o2, es, ep, e2, d2, _⟩ := n
  rw [e] at e2; cases e2; rw [hd] at d2; cases d2
theorem TabRS.butNs {h h' : Heap} {P L : Addr} {m : Str → Option Value} (x : Tab RS h P) (n : h.Ns L m) (k : KpB L h h') : Tab RS h' P := by
  obtain ⟨ps, e, t, a⟩ := x
  refine ⟨ps, k _ _ ?_ e, t, fun l kk cv q => ?_⟩
  · rintro rfl
    obtain ⟨o2, es, ep, e2, d2, _⟩ := n
    rw [e] at e2; cases e2; cases d2
  · obtain ⟨c, q1, q2⟩ := a l kk cv q
    exact ⟨c, q1, Cd.butNs q2 n k⟩
/-- the table as another heap bears it, its codes being kept -/
theorem TabRS.of {h h' : Heap} {P : Addr} {ps : Array Value} (k : Kp h h') (e : h'.get? P = some (tabObj ps)) (x : TriplesOk ps.toList ∧ ∀ (line col : Nat) cv, codeAmong ⟨line, col, 0, 0⟩ ps.toList = some cv → ∃ c, cv = .ref c ∧ RS line col c h) : Tab RS h' P :=
  ⟨ps, e, x.1, fun l kk cv q => let ⟨c, q1, q2⟩ := x.2 l kk cv q; ⟨c, q1, q2.kp k⟩⟩
theorem TabRS.butFn {h h' : Heap} {P f : Addr} {c : Value} {d : Option Addr} {fd : FuncData} {sl : Array (Option Value)} (x : Tab RS h P) (n : h.get? f = some ⟨c, d, .func fd, sl⟩) (k : KpB f h h') : Tab RS h' P := by
  obtain ⟨ps, e, t, a⟩ := x
  refine ⟨ps, k _ _ ?_ e, t, fun l kk cv q => ?_⟩
  · rintro rfl; rw [e] at n; cases n
  · obtain ⟨c, q1, ⟨o, vs, t, e2, hc, hd, r⟩⟩ := a l kk cv q
    exact ⟨c, q1, ⟨o, vs, t, k _ _ (by rintro rfl; rw [n] at e2; cases e2; cases hd) e2, hc, hd, r⟩⟩
end Mine

-- S1
namespace Mine
open PySem PySem.W PyProof.Rows PySem.Spec PySem.Calls
theorem skipTo_stop {b : Nat → Bool} {want : Bool} {k i : Nat} (h : b i = want) : skipTo b want k i = i := by
  cases k with
  | zero => rfl
  | succ k => simp [skipTo, h]
theorem skipTo_step {b : Nat → Bool} {want : Bool} {n i : Nat} (h : b i ≠ want) (hi : i < n) : skipTo b want (n - i) i = skipTo b want (n - (i + 1)) (i + 1) := by
  rw [show n - i = (n - (i + 1)) + 1 by omega, skipTo, if_neg h]
theorem skipTo_end {b : Nat → Bool} {want : Bool} {n i : Nat} (hi : ¬ i < n) : skipTo b want (n - i) i = i := by
  rw [show n - i = 0 by omega, skipTo]
theorem skipTo_ge (b : Nat → Bool) (want : Bool) : ∀ k i, i ≤ skipTo b want k i ∧ skipTo b want k i ≤ i + k
  | 0, i => by simp [skipTo]
  | k + 1, i => by
    unfold skipTo
    split
    · omega
    · have := skipTo_ge b want k (i + 1); omega
local macro_rules | `(tactic| walk_at $s:str) => if ["exec While", "setAttr ref", "eval Lambda"].contains s.getString then `(tactic| (refine stop_intro ?_)) else if s.getString == "eval Name" then `(tactic| (k_dflt (refine' nameX_Fb ?F ?c ?v ?_ ?a ?b; (case a => rfl); (case b => rfl); (case F => k_asm); (case c => rfl); (case v => assumption); k_whole))) else if s.getString == "call builtin:len" then `(tactic| (refine len_at (by assumption) ?_; intro _ _)) else if s.getString == "subscriptTail Name Name str int" then `(tactic| (k_dflt (refine item_lt (by omega) (by assumption) ?_); intro c9 hc9)) else if s.getString == "compareOp In str str" then `(tactic| (refine in_one ?_)) else if s.getString == "compareOp NotIn str str" then `(tactic| (refine notIn_one ?_)) else Lean.Macro.throwUnsupported
theorem search_fn {w : World} {mg mb : Str → Option Value} {oc₀ : Value} {od₀ : Option Addr} {nm₀ qual₀ sname : Str} {params₀ sparams : Arguments} {sbody rest₀ : List Stmt} {sdec : List Expr} {sret : Option Expr} {stp : List TypeParam} {sscope scope₀ : Scope} {sts : Option Scope} {sbind : Str} {spos : Pos}
    {dV₀ kV₀ doc₀ pm₀ cdv₀ ct₀ : Value} {an₀ : Option Addr} {osl₀ : Array (Option Value)}
    (ho : (hd.heap_39 w.params).lookup 82 = some ⟨oc₀, od₀, .func (fnX nm₀ qual₀ params₀ (.FunctionDef sname sparams sbody sdec sret stp sscope sts sbind spos :: rest₀) scope₀ [] dV₀ kV₀ doc₀ pm₀ an₀ cdv₀ ct₀), osl₀⟩)
    {h : Heap} {g T c Ps cL : Addr} {letters : Str} {tl t0 : Tok} {doc pm ctv : Value}
    (hg : h.get? g = some ⟨.type "function", none, .func (fdOf sname qSearch sparams (.stmts sbody) sscope [("letters", cL)] (.ref T) .none doc pm (.ref c) ctv), #[]⟩)
    (hT : h.get? T = some ⟨.type "tuple", none, .seq #[.int 0 t0] 0, #[]⟩) (hc : Cd h c qSearch) (hcl : h.IsCell cL (some (.str letters tl))) (C : CodeHd h c Ps) :
    SearchFn w mg mb h g letters Ps := by
  have : PySem.Challenge.rw_mr0153_01.Holds → (hd.heap_39 w.params).In h → True := by (k_fill; intros; trivial)
  clear this
  have e := lk_same ho (by k_is)
  cases e
  refine ⟨⟨_, hg⟩, ?_⟩
  intro s A Q E chars t i args S k G TB rm hS hsz hi ha hq
  refine rm.any ?_
  have hg' := k _ _ hg rfl
  have hT' := k _ _ hT rfl
  obtain ⟨ps, hP, hps⟩ := id TB
  have hcd := (hc.kp k).rec
  have C' := CodeHd.kp C k
  refine with_bind hg' (BindsTo.of_defaults rfl hT' rfl rfl rfl) (fun u => BindsTo.of_defaults rfl hT' rfl rfl rfl) ha ?_
  clear ha
  intro u args hb
  refine enter2 (x := "behind") (y := "first") (Bs.gP Ps s.heap) G.nolimit hg' hcd (by decide) hb (locs rfl) (fun n => rfl) ?_ rfl rfl rfl
  intro L h₁ ox oy F N dy dx hL kf
  have X := G.X.keeps (gh_gP hP)
  obtain ⟨lo, mn, TP'⟩ := G.T
  have TP := TP'.keeps (gh_gP hP)
  clear TP'
  have hcl' : (gP Ps s.heap).IsCell cL (some (.str letters tl)) := (IsCell.gh (IsCell.kp hcl k)).keeps (gh_gP hP)
  have hPL : @LT.lt Nat _ Ps L := Nat.lt_of_lt_of_le (Heap.lt_size hP) hL
  have N : News (gP Ps s.heap) L h₁ [(L + 1 + 1, oy), (L + 1, ox), (Ps, tabObj ps)] := fun p hp => by
    rcases List.mem_cons.mp hp with rfl | hp
    · exact N _ (.head _)
    rcases List.mem_cons.mp hp with rfl | hp
    · exact N _ (.tail _ (.head _))
    rcases List.mem_cons.mp hp with rfl | hp
    · exact ⟨kf _ _ hP, Nat.ne_of_lt hPL, gP_none⟩
    · cases hp
  clear kf hb hg' hT' hcd ho hg hT hc TB
  generalize hbb : (fun i => letters.cps.toList.contains (chars.cps.toList.getD i 0)) = bb at *
  have hbv : ∀ j c, chars.cps[j]? = some c → letters.cps.toList.contains c = bb j := fun j c e => by
    rw [← hbb]
    simp [List.getD, e]
  k_steps
  refine Stop.go ?_
  refine letter2 (fun (n : Nat) (s' : Shared) (QQ : Prop) => ∀ (j : Nat) (h' : Heap) (tk : Nat) (oy : Obj) (u' : Tok), s' = Sh s h' tk → (j ≤ chars.cps.size) → n = chars.cps.size - j → (skipTo bb true (chars.cps.size - j) j = skipTo bb true (chars.cps.size - i) i) → (Fr (gP Ps s.heap) L h' fun y => List.lookup y [("start", Value.int i u), ("chars", Value.str chars t)]) → News (gP Ps s.heap) L h' [(L + 1 + 1, oy), (L + 1, ox), (Ps, tabObj ps)] → oy.data = .cell (some (.int j u')) → QQ) ?_
  intro I1 mkI1 unI1
  refine letter1 (fun (s' : Shared) (QQ : Prop) => ∀ (h' : Heap) (tk : Nat) (oy : Obj) (u' : Tok), s' = Sh s h' tk → (Fr (gP Ps s.heap) L h' fun y => List.lookup y [("start", Value.int i u), ("chars", Value.str chars t)]) → News (gP Ps s.heap) L h' [(L + 1 + 1, oy), (L + 1, ox), (Ps, tabObj ps)] → oy.data = .cell (some (.int (skipTo bb true (chars.cps.size - i) i : Nat) u')) → QQ) ?_
  intro R1 mkR1 unR1
  refine while_rule I1
    R1 (chars.cps.size - i) ?_ ?_ ?_
  · exact mkI1 _ _ fun QQ qq => qq i _ _ _ _ rfl hi rfl rfl (by assumption) (by assumption) (by assumption)
  · intro n s' hy
    refine unI1 _ _ _ hy ?_
    clear hy
    rintro j h' tk oy u' rfl hj rfl hsk F N dy
    k_steps
    · rename chars.cps[_]? = some _ => hc9
      rename List.contains _ _ = true => hin
      have hF : skipTo bb true (chars.cps.size - i) i = j := by rw [← hsk]; exact skipTo_stop ((hbv _ _ hc9).symm.trans hin)
      exact mkR1 _ fun QQ qq => qq _ _ _ _ rfl F N (by rw [hF]; exact dy)
    · rename chars.cps[_]? = some _ => hc9
      rename List.contains _ _ = false => hin
      rename Fr _ _ _ _ => F'
      rename News _ _ _ _ => N'
      rename Obj.data _ = _ => d'
      have hlt' : j < chars.cps.size := by omega
      have hne : bb j ≠ true := by rw [← hbv _ _ hc9, hin]; exact Bool.false_ne_true
      refine ⟨chars.cps.size - (j + 1), by omega, ?_⟩
      exact mkI1 _ _ fun QQ qq => qq (j + 1) _ _ _ _ rfl hlt' rfl (by rw [← skipTo_step hne hlt']; exact hsk) F' N' d'
    · rename_i hge
      have hF : skipTo bb true (chars.cps.size - i) i = j := by rw [← hsk]; exact skipTo_end (by omega)
      exact mkR1 _ fun QQ qq => qq _ _ _ _ rfl F N (by rw [hF]; exact dy)
  clear hcl
  intro s' hy
  refine unR1 _ _ hy ?_
  clear hy
  rintro h' tk oy u' rfl F N dy
  dsimp only
  have hFi := skipTo_ge bb true (chars.cps.size - i) i
  generalize hFF : skipTo bb true (chars.cps.size - i) i = FF at *
  k_steps
  refine Stop.go ?_
  refine letter2 (fun (n : Nat) (s' : Shared) (QQ : Prop) => ∀ (j : Nat) (h' : Heap) (tk : Nat) (ox : Obj) (u'' : Tok), s' = Sh s h' tk → (j ≤ chars.cps.size) → n = chars.cps.size - j → (skipTo bb false (chars.cps.size - j) j = skipTo bb false (chars.cps.size - FF) FF) → (Fr (gP Ps s.heap) L h' fun y => List.lookup y [("start", Value.int i u), ("chars", Value.str chars t)]) → News (gP Ps s.heap) L h' [(L + 1 + 1, oy), (L + 1, ox), (Ps, tabObj ps)] → ox.data = .cell (some (.int j u'')) → QQ) ?_
  intro I2 mkI2 unI2
  refine letter1 (fun (s' : Shared) (QQ : Prop) => ∀ (h' : Heap) (tk : Nat) (ox : Obj) (u'' : Tok), s' = Sh s h' tk → (Fr (gP Ps s.heap) L h' fun y => List.lookup y [("start", Value.int i u), ("chars", Value.str chars t)]) → News (gP Ps s.heap) L h' [(L + 1 + 1, oy), (L + 1, ox), (Ps, tabObj ps)] → ox.data = .cell (some (.int (skipTo bb false (chars.cps.size - FF) FF : Nat) u'')) → QQ) ?_
  intro R2 mkR2 unR2
  refine while_rule I2
    R2 (chars.cps.size - FF) ?_ ?_ ?_
  · exact mkI2 _ _ fun QQ qq => qq FF _ _ _ _ rfl (by omega) rfl rfl (by assumption) (by assumption) (by assumption)
  · intro n s' hy
    refine unI2 _ _ _ hy ?_
    clear hy
    rintro j h' tk ox u'' rfl hj rfl hsk F N dx
    k_steps
    · rename chars.cps[_]? = some _ => hc9
      rename List.contains _ _ = true => hin
      rename Fr _ _ _ _ => F'
      rename News _ _ _ _ => N'
      rename Obj.data _ = _ => d'
      have hlt' : j < chars.cps.size := by omega
      have hne : bb j ≠ false := by rw [← hbv _ _ hc9, hin]; exact Bool.noConfusion
      refine ⟨chars.cps.size - (j + 1), by omega, ?_⟩
      exact mkI2 _ _ fun QQ qq => qq (j + 1) _ _ _ _ rfl hlt' rfl (by rw [← skipTo_step hne hlt']; exact hsk) F' N' d'
    · rename chars.cps[_]? = some _ => hc9
      rename List.contains _ _ = false => hin
      have hF : skipTo bb false (chars.cps.size - FF) FF = j := by rw [← hsk]; exact skipTo_stop ((hbv _ _ hc9).symm.trans hin)
      exact mkR2 _ fun QQ qq => qq _ _ _ _ rfl F N (by rw [hF]; exact dx)
    · have hF : skipTo bb false (chars.cps.size - FF) FF = j := by rw [← hsk]; exact skipTo_end (by omega)
      exact mkR2 _ fun QQ qq => qq _ _ _ _ rfl F N (by rw [hF]; exact dx)
  intro s' hy
  refine unR2 _ _ hy ?_
  clear hy
  rintro h' tk ox u'' rfl F N dx
  dsimp only
  have hrun : runFrom chars.cps.toList letters.cps.toList i = if FF = skipTo bb false (chars.cps.size - FF) FF then none else some (FF, skipTo bb false (chars.cps.size - FF) FF) := by
    unfold runFrom
    simp only [hbb, Array.length_toList, hFF]
  generalize hEE : skipTo bb false (chars.cps.size - FF) FF = EE at *
  have htab : Tab RS h' Ps := TabRS.of (Kp.of_gP hP F.keep) (N _ (.tail _ (.tail _ (.head _)))).1 hps
  k_steps
  · rename_i heq
    have heq' : FF = EE := by omega
    refine hq _ _ _ (KpB.of_gP F.keep) htab ?_
    rw [hrun, if_pos heq']
  rename_i hne
  have hne' : FF ≠ EE := by omega
  rw [if_neg hne'] at hrun
  refine Stop.go (kla_eval rfl ?_)
  refine mkFn0 (P := Ps) (R := RS) (G.kp (Kp.of_gP hP F.keep)) (fun _ _ _ _ _ ⟨_, e⟩ k r => r.kp (k.kp e)) rfl rfl rfl (CodeHd.kp C' (Kp.of_gP hP F.keep)) htab (fun c' P' h' _ _ cd _ _ => cd) ?_
  intro f1 c1 ctv1 doc1 h1 tk1 k1 z1 e1 r1 t1
  obtain ⟨ps1, hP1, hps1⟩ := id t1
  have F1 := Fr.kpb F k1 (Nat.ne_of_gt hPL) gP_none
  have hLf : @LT.lt Nat _ (L + 1 + 1) f1 := Nat.lt_of_lt_of_le (Heap.lt_size (N _ (.head _)).1) z1
  have hLf' : @LT.lt Nat _ L f1 := by omega
  have hPf : @LT.lt Nat _ Ps f1 := by omega
  have ny : @Ne Nat (L + 1 + 1) Ps := by omega
  have nx : @Ne Nat (L + 1) Ps := by omega
  have cy1 := k1 _ _ ny (N _ (.head _)).1
  have cx1 := k1 _ _ nx (N _ (.tail _ (.head _))).1
  clear N
  dsimp only [Sh]
  refine wpAny_storeName_local rfl F1.ns (fun h2 n2 s2 => ?_) rfl
  have kL : KpB L h1 h2 := fun b o n e => (s2.2 b n).trans e
  have F2 := F1.set n2 s2
  have t2 : Tab RS h2 Ps := TabRS.butNs t1 F1.ns kL
  have nyL : @Ne Nat (L + 1 + 1) L := by omega
  have nxL : @Ne Nat (L + 1) L := by omega
  have nfL : @Ne Nat f1 L := by omega
  have cy2 := kL _ _ nyL cy1
  have cx2 := kL _ _ nxL cx1
  have e2 := kL _ _ nfL e1
  clear F1 cy1 cx1 e1 t1
  k_steps
  refine Stop.go (kla_eval rfl ?_)
  refine mkFn0 (P := Ps) (R := RS) (G.kp (Kp.of_gP hP F2.keep)) (fun _ _ _ _ _ ⟨_, e⟩ k r => r.kp (k.kp e)) rfl rfl rfl (CodeHd.kp C' (Kp.of_gP hP F2.keep)) t2 (fun c' P' h' _ _ cd _ _ => cd) ?_
  intro f3 c3 ctv3 doc3 h3 tk3 k3 z3 e3 r3 t3
  have F3 := Fr.kpb F2 k3 (Nat.ne_of_gt hPL) gP_none
  have nfP : @Ne Nat f1 Ps := by omega
  have cy3 := k3 _ _ ny cy2
  have cx3 := k3 _ _ nx cx2
  have e13 := k3 _ _ nfP e2
  dsimp only [Sh]
  have hf2 := e2
  clear F2 cy2 cx2 e2 t2
  k_steps
  refine Stop.go (setAttr_fn e13 lk_fn_span ?_)
  intro h4 tk4 D zD e14 nD k4
  have k4' : KpB f1 h3 h4 := fun b o n e => k4 b o n e
  have F4 := Fr.kpb F3 k4' (Nat.ne_of_lt hLf') (Fr.fresh F3 hLf')
  have z3' : @LT.lt Nat _ f1 f3 := Nat.lt_of_lt_of_le (Heap.lt_size hf2) z3
  have nf3 : @Ne Nat f3 f1 := by omega
  have nyf : @Ne Nat (L + 1 + 1) f1 := by omega
  have nxf : @Ne Nat (L + 1) f1 := by omega
  have e34 := k4' _ _ nf3 e3
  have cy4 := k4' _ _ nyf cy3
  have cx4 := k4' _ _ nxf cx3
  have t4 := TabRS.butFn t3 e13 k4'
  have r4 : Cd h4 c3 qLamS := by
    obtain ⟨o, vs, t, e2, hc, hd, r⟩ := r3
    exact ⟨o, vs, t, k4' _ _ (by rintro rfl; rw [e13] at e2; cases e2; cases hd) e2, hc, hd, r⟩
  have F3ns := F3.ns
  clear F3 cy3 cx3 e13 t3 r3
  k_steps
  refine hq _ _ _ (KpB.of_gP F4.keep) t4 ?_
  rw [hrun]
  have kf4 := KpB.of_gP F4.keep
  have hS1 : ∀ a, s.heap.objs.size ≤ a → a ∉ S := fun a ha hm => by
    exact absurd (hS a hm).lt (Nat.not_lt.mpr ha)
  have hSc : c3 ∉ S := fun hm => by
    obtain ⟨o, q1, q2, q4⟩ := hS c3 hm
    have q3 := kf4.kp hP _ _ q1 q2
    obtain ⟨o2, vs, t, e2, hc, hd, r⟩ := r4
    rw [q3] at e2; cases e2; exact q4 _ hc hd
  have g1 : f1 ∉ S := hS1 _ (by omega)
  have g3 : f3 ∉ S := hS1 _ (by omega)
  have gy : L + 1 + 1 ∉ S := hS1 _ (by omega)
  have gx : L + 1 ∉ S := hS1 _ (by omega)
  have gD : D ∉ S := hS1 _ (Nat.le_trans (Nat.le_trans hL (Nat.le_of_lt F3ns.lt)) zD)
  obtain ⟨oD, es, ep, eD, rD⟩ := nD
  obtain ⟨oc, vs, tt, ec, rc⟩ := r4
  exact ⟨f1, rfl, D, _, f3, _, hideAll_get _ e14 g1, ⟨oD, es, ep, hideAll_get _ eD gD, rD⟩, by simp, pair_lam (hideAll_get _ e34 g3) ⟨oc, vs, tt, hideAll_get _ ec hSc, rc⟩ rfl rfl ⟨_, hideAll_get _ cy4 gy, dy⟩ ⟨_, hideAll_get _ cx4 gx, dx⟩ rfl rfl rfl (by decide) rfl rfl rfl rfl rfl rfl rfl⟩
end Mine

-- S2a
namespace Mine
open PySem PySem.W PyProof.Rows PySem.Spec PySem.Calls
theorem Kf.hide {h h' : Heap} {S : List Addr} (k : ∀ b o, b ∉ S → h.get? b = some o → h'.get? b = some o) : Kf (hideAll h S) (hideAll h' S) := fun b o e => by
  have hb : b ∉ S := fun hm => by rw [hideAll_none _ hm] at e; cases e
  exact hideAll_get _ (k b o hb (of_hideAll _ e)) hb
theorem kp_of_hide {h h' : Heap} {S : List Addr} (k : ∀ b o, b ∉ S → h.get? b = some o → isTab o = false → h'.get? b = some o) : Kp (hideAll h S) (hideAll h' S) := fun b o e i => by
  have hb : b ∉ S := fun hm => by rw [hideAll_none _ hm] at e; cases e
  exact hideAll_get _ (k b o hb (of_hideAll _ e) i) hb
theorem hide_kp {h : Heap} {S : List Addr} : Kp (hideAll h S) h := fun b o e _ => of_hideAll _ e
theorem hide_sub {h : Heap} {S : List Addr} {L : Addr} : Kp (hideAll h (L :: S)) (hideAll h S) := fun b o e _ => by
  have hb : b ∉ L :: S := fun hm => by rw [hideAll_none _ hm] at e; cases e
  exact hideAll_get _ (of_hideAll _ e) fun hm => hb (.tail _ hm)
noncomputable def Mono (P : Heap → Prop) : Prop := ∀ H H', Kf H H' → P H → P H'
section
variable {M : Model} {A : Around} {E : Value → Shared → Prop} {s : Shared} {h₀ : Heap} {L a : Addr} {m : Str → Option Value} {cn : Str} {cs : Scope} {ccd : Value} {cl : List (Str × Addr)}
  {x : Str} {v : Value} {Q : Unit → Shared → Prop} {news : List (Addr × Obj)}
/-- a store into the frame; what is known beside the frame stays -/
theorem storeX_J {J : Heap → Prop} {S : List Addr} (hm : Mono J) (F : Fr h₀ L s.heap m) (N : News h₀ L s.heap news) (j : J (hideAll s.heap (L :: S)))
    (h : ∀ h', Fr h₀ L h' (fun y => if y = x then some v else m y) → News h₀ L h' news → J (hideAll h' (L :: S)) → Q () { s with heap := h', toks := s.toks + 1 })
    (hk : cs.kind = .function := by rfl) (hx : (envX cn cs L a ccd cl).kindOf x = some .local := by rfl) : wpAny M A (storeName (envX cn cs L a ccd cl) x v) Q E s :=
  wpAny_storeName_local hx F.ns (fun h' hn hs => h h' (F.set hn hs) (N.set hs) (hm _ _ (Kf.hide fun b o hb e => (hs.2 b fun q => hb (q ▸ .head _)).trans e) j)) (by show (cs.kind == .class || (cs.kind == .module && L != mainGlobals)) = false; rw [hk]; rfl)
end
theorem set_lookup (y x : Str) (v : Value) (l : List (Str × Value)) : (if y = x then some v else List.lookup y l) = List.lookup y ((x, v) :: l) := by
  rw [List.lookup_cons]
  by_cases h : y = x
  · subst h; simp
  · have hb : (y == x) = false := beq_eq_false_iff_ne.mpr h
    simp only [hb, h, if_false]
theorem lookup_none_of {l : List (Str × Value)} {y : Str} (h : y ∉ l.map (·.1)) : l.lookup y = none := by
  induction l with
  | nil => rfl
  | cons p r ih =>
    rw [List.map_cons, List.mem_cons, not_or] at h
    rw [show p = (p.1, p.2) from rfl, List.lookup_cons, beq_eq_false_iff_ne.mpr h.1]
    exact ih h.2
theorem lookup_ext {l1 l2 : List (Str × Value)} (h : ∀ k ∈ l1.map (·.1) ++ l2.map (·.1), l1.lookup k = l2.lookup k) : (fun y => l1.lookup y) = fun y => l2.lookup y := by
  funext y
  by_cases hy : y ∈ l1.map (·.1) ++ l2.map (·.1)
  · exact h y hy
  · rw [List.mem_append, not_or] at hy
    rw [lookup_none_of hy.1, lookup_none_of hy.2]
theorem Fr.map {B h : Heap} {L : Addr} {l1 l2 : List (Str × Value)} (F : Fr B L h (fun y => l1.lookup y)) (e : ∀ k ∈ l1.map (·.1) ++ l2.map (·.1), l1.lookup k = l2.lookup k) : Fr B L h (fun y => l2.lookup y) := lookup_ext e ▸ F
theorem lk_fn_bool : typeLookup (.type "function") "__bool__" = pure none := by rw [typeLookup_type, builtinLookup_eq_fast]; kernel_rfl
theorem lk_fn_len : typeLookup (.type "function") "__len__" = pure none := by rw [typeLookup_type, builtinLookup_eq_fast]; kernel_rfl
theorem truthy_fn {M : Model} {A : Around} {E : Value → Shared → Prop} {s : Shared} {Q : Bool → Shared → Prop} {f : Addr} {d : Option Addr} {fd : FuncData} {sl : Array (Option Value)}
    (hf : s.heap.get? f = some ⟨.type "function", d, .func fd, sl⟩) (h : Q true s) : wpAny M A (truthy (.ref f)) Q E s := by
  have hT : s.TypeIs (.ref f) "function" := ⟨_, hf, rfl⟩
  unfold truthy
  refine wpAny_bind (wpAny_callSpecial?_none hT lk_fn_bool ?_)
  refine wpAny_bind (wpAny_specialOf hT lk_fn_len ?_)
  exact wpAny_pure h
/-- prog: its attribute search -/
noncomputable def ProgAt (w : World) (mg mb : Str → Option Value) (h : Heap) (f : Addr) (letters : Str) (Ps : Addr) : Prop :=
  ∃ D m g fd, h.get? f = some ⟨.type "function", some D, .func fd, #[]⟩ ∧ h.Ns D m ∧ m "search" = some (.ref g) ∧ SearchFn w mg mb h g letters Ps
theorem ProgAt.kp {w : World} {mg mb : Str → Option Value} {h h' : Heap} {f : Addr} {letters : Str} {Ps : Addr} (x : ProgAt w mg mb h f letters Ps) (k : Kp h h') : ProgAt w mg mb h' f letters Ps := by
  obtain ⟨D, m, g, fd, e1, e2, e3, ⟨fd', e4⟩, e5⟩ := x
  exact ⟨D, m, g, fd, k _ _ e1 rfl, Ns.kp e2 k, e3, ⟨fd', k _ _ e4 rfl⟩, fun s A Q E c t i as S k' => e5 s A Q E c t i as S (k.trans k')⟩
/-- all the runs from a place on -/
noncomputable def runsK (cs ls : List Nat) : Nat → Nat → List (Nat × Nat)
  | 0, _ => []
  | k + 1, i => match runFrom cs ls i with
    | none => []
    | some (a, b) => (a, b) :: runsK cs ls k b
/-- the last run of those that lie before col, up to the first that does not -/
noncomputable def lastB (col : Int) : List (Nat × Nat) → Option (Nat × Nat) → Option (Nat × Nat)
  | [], r => r
  | (a, b) :: l, r => if (a : Int) < col ∧ (b : Int) ≤ col then lastB col l (some (a, b)) else r
theorem skipTo_lt {b : Nat → Bool} {want : Bool} {n i : Nat} (h : skipTo b want (n - i) i < n) (hi : i ≤ n) : b (skipTo b want (n - i) i) = want := by
  generalize hk : n - i = k at *
  induction k generalizing i with
  | zero => simp only [skipTo] at h; omega
  | succ k ih =>
    unfold skipTo at h ⊢
    split
    · assumption
    · rename_i hne
      rw [if_neg hne] at h
      exact ih (by omega) (by omega) h
theorem runFrom_some {cs ls : List Nat} {i a b : Nat} (hi : i ≤ cs.length) (h : runFrom cs ls i = some (a, b)) : i ≤ a ∧ a < b ∧ b ≤ cs.length := by
  unfold runFrom at h
  simp only at h
  split at h
  · cases h
  · rename_i hne
    cases h
    have h1 := skipTo_ge (fun i => ls.contains (cs.getD i 0)) true (cs.length - i) i
    have h2 := skipTo_ge (fun i => ls.contains (cs.getD i 0)) false (cs.length - skipTo (fun i => ls.contains (cs.getD i 0)) true (cs.length - i) i) (skipTo (fun i => ls.contains (cs.getD i 0)) true (cs.length - i) i)
    omega
theorem runsK_enough {cs ls : List Nat} : ∀ {k k' i : Nat}, i ≤ cs.length → cs.length - i < k → cs.length - i < k' → runsK cs ls k i = runsK cs ls k' i
  | k + 1, k' + 1, i, hi, h, h' => by
    unfold runsK
    cases q : runFrom cs ls i with
    | none => rfl
    | some p =>
      obtain ⟨a, b⟩ := p
      have := runFrom_some hi q
      show (a, b) :: runsK cs ls k b = (a, b) :: runsK cs ls k' b
      rw [runsK_enough (k := k) (k' := k') (by omega) (by omega) (by omega)]
theorem span_call {w : World} {A : Around} {s : Shared} {Q E : Value → Shared → Prop} {f : Addr} {a b : Int} {S : List Addr} {pl : Sem Bool} {pos : Pos} {env : Env} (HA : HitAt w (hideAll s.heap S) f a b) (hl : s.heap.NoLimit) (rm : Rm A 360 400)
    (h : ∀ tA h' tk t1 t2, Kf s.heap h' → s.heap.objs.size ≤ tA → h'.get? tA = some ⟨.type "tuple", none, .seq #[.int a t1, .int b t2] 0, #[]⟩ → Q (.ref tA) (Sh s h' tk)) :
    wpAny (model PG w) A (getMethod (.ref f) "span" pl) (fun fx s₂ => wpAny (model PG w) A (callWith pos fx.1 fx.2 (backTo pos (starEach [] env)) []) Q E s₂) E s := by
  obtain ⟨D, m, g, fd, e1, e2, e3, ⟨fd', e4⟩, e5⟩ := HA
  refine getMethod_fn (of_hideAll _ e1) lk_fn_span (Ns.kp e2 hide_kp) e3 ?_
  intro tk
  refine callWith_F0 ⟨_, _, _, _, of_hideAll _ e4⟩ ?_
  exact e5 _ _ _ _ hide_kp hl rm fun tA h' tk t1 t2 k z e => h tA h' tk t1 t2 k z e
theorem HitAt.fn {w : World} {h : Heap} {S : List Addr} {f : Addr} {a b : Int} (x : HitAt w (hideAll h S) f a b) : ∃ D fd, h.get? f = some ⟨.type "function", some D, .func fd, #[]⟩ :=
  let ⟨D, _, _, fd, e1, _⟩ := x; ⟨D, fd, of_hideAll _ e1⟩
theorem tab_unhide {h : Heap} {S : List Addr} {P : Addr} (x : Tab RS (hideAll h S) P) : Tab RS h P := let ⟨ps, e, y⟩ := x; TabRS.of hide_kp (of_hideAll _ e) y
/-- hiding such objects leaves a table and its codes -/
theorem tab_hide {h : Heap} {P : Addr} {S : List Addr} (x : Tab RS h P) (hS : ∀ a ∈ S, Off h a) : Tab RS (hideAll h S) P := by
  obtain ⟨ps, e, t, a⟩ := x
  refine ⟨ps, hideAll_get _ e fun hm => ?_, t, fun l kk cv q => ?_⟩
  · obtain ⟨o, e2, i, _⟩ := hS _ hm
    rw [e] at e2; cases e2; cases i
  · obtain ⟨c, q1, ⟨o, vs, t, e2, hc, hd, r⟩⟩ := a l kk cv q
    refine ⟨c, q1, ⟨o, vs, t, hideAll_get _ e2 fun hm => ?_, hc, hd, r⟩⟩
    obtain ⟨o2, e3, _, n⟩ := hS _ hm
    rw [e2] at e3; cases e3; exact n _ hc hd
theorem Rm.deeper {d u d' u' : Nat} {env : Env} (h1 : d + 1 ≤ d') (h2 : u + 3 ≤ u') : Rm ((AA d u).deeper env) d' u' := ⟨rfl, h1, h2⟩
theorem mono_tab (P : Addr) : Mono fun H => Tab RS H P := by
  rintro H H' k ⟨ps, e, x, y⟩
  exact TabRS.of k.kp (k _ _ e) ⟨x, y⟩
theorem mono_hit (w : World) (f : Addr) (a b : Int) : Mono fun H => HitAt w H f a b := fun H H' k x => x.kp k.kp
theorem Mono.and {P Q : Heap → Prop} (p : Mono P) (q : Mono Q) : Mono fun H => P H ∧ Q H := fun H H' k x => ⟨p H H' k x.1, q H H' k x.2⟩
/-- none, or a hit of that run -/
noncomputable def HitV (w : World) (v : Value) (r : Option (Nat × Nat)) (H : Heap) : Prop := match r with
  | none => v = .none
  | some (a, b) => ∃ f, v = .ref f ∧ HitAt w H f a b
theorem mono_hitV (w : World) (v : Value) (r : Option (Nat × Nat)) : Mono (HitV w v r) := fun H H' k x => by
  unfold HitV at x ⊢
  split
  · exact x
  · obtain ⟨f, e, y⟩ := x; exact ⟨f, e, y.kp k.kp⟩
theorem HitV.kp {w : World} {v : Value} {r : Option (Nat × Nat)} {H H' : Heap} (x : HitV w v r H) (k : Kp H H') : HitV w v r H' := by
  unfold HitV at x ⊢
  split
  · exact x
  · obtain ⟨f, e, y⟩ := x; exact ⟨f, e, y.kp k⟩
theorem keepsF {B h h' : Heap} {L : Addr} {m : Str → Option Value} (F : Fr B L h m) (k : Kf h h') : Fr B L h' m :=
  ⟨F.ns.keeps k, fun b o e => k b o (F.keep b o e), F.above⟩
theorem unpackJ {w : World} {A : Around} {E : Value → Shared → Prop} {s : Shared} {env : Env} {h₀ : Heap} {L : Addr} {m : Str → Option Value} {news : List (Addr × Obj)} {J : Heap → Prop} {S : List Addr} {elts : List Expr} {k} {pos : Pos} {t : Addr} {items : Array Value} {Q : Unit → Shared → Prop}
    (hm : Mono J) (F : Fr h₀ L s.heap m) (N : News h₀ L s.heap news) (j : J (hideAll s.heap (L :: S))) (ht : IsTup s.heap t items)
    (hh : A.handled = none) (hn : (assignEach elts env).length = items.size) (hstar : (assignEach elts env).findIdx? (·.1) = none)
    (h : ∀ h', Fr h₀ L h' m → News h₀ L h' news → J (hideAll h' (L :: S)) → wpAny (model PG w) A (assignInOrder ((assignEach elts env).map (·.2)) items.toList) Q E { s with heap := h' }) :
    wpAny (model PG w) A (assign (.Tuple elts k pos) env (.ref t)) Q E s :=
  assign_Tuple_tuple hh ht hn hstar fun h' he => h h' (F.extBut he (Nat.le_refl _)) (N.extBut he (Nat.le_refl _)) (hm _ _ (Kf.hide fun b o _ e => he b o (Nat.ne_of_lt (Heap.lt_size e)) e) j)
end Mine

-- S2
section
open Mine PySem PySem.W PyProof.Rows PySem.Spec PySem.Calls
local macro_rules | `(tactic| walk_at $s:str) => if s.getString == "storeName" then `(tactic| (k_dflt (refine' storeX_J ?m ?F ?N ?j ?_ ?a ?b; (case m => assumption); (case F => k_asm); (case N => k_asm); (case j => assumption); (case a => rfl); (case b => rfl); k_whole; intro h' F' N' J'; (try k_sweep)))) else if s.getString == "assign Tuple" then `(tactic| (k_dflt (refine' unpackJ ?m ?F ?N ?j ?T ?k1 ?k2 ?k3 ?_; (case m => assumption); (case F => k_asm); (case N => k_asm); (case j => assumption); (case T => (refine News.isTup (by k_asm) (by k_mem))); (case k1 => exact rfl); (case k2 => exact rfl); (case k3 => exact rfl)); intro h' F' N' J'; (try k_sweep))) else Lean.Macro.throwUnsupported
namespace Mine
open PySem PySem.W PyProof.Rows PySem.Spec PySem.Calls
local macro_rules | `(tactic| walk_at $s:str) => if ["exec While", "getMethod ref", "callWith ref", "call ref", "truthy ref"].contains s.getString then `(tactic| (refine stop_intro ?_)) else Lean.Macro.throwUnsupported
theorem sr_spec {w : World} {mg mb : Str → Option Value} {s : Shared} {A : Around} {Q E : Value → Shared → Prop} {f Ps : Addr} {letters chars : Str} {t u : Tok} {col : Int} {S : List Addr}
    (G : Gd w mg mb s.heap) (TB : Tab RS s.heap Ps) (rm : Rm A 340 300) (hS : ∀ a ∈ S, Off s.heap a) (PA : ProgAt w mg mb (hideAll s.heap S) f letters Ps) (hsz : chars.cps.size ≤ 1000)
    (hq : ∀ v h' tk, KpB Ps s.heap h' → Tab RS h' Ps → (match lastB col (runsK chars.cps.toList letters.cps.toList (chars.cps.size + 1) 0) none with | none => v = .none | some (a, b) => ∃ f, v = .ref f ∧ HitAt w (hideAll h' S) f a b) → Q v (Sh s h' tk)) :
    wpAny (model PG w) A (call (.ref 68) [.ref f, .str chars t, .int col u]) Q E s := by
  have : PySem.Challenge.rw_mr0153_01.Holds → (hd.heap_39 w.params).In s.heap → True := by (k_fill; intros; trivial)
  clear this
  refine rm.any ?_
  obtain ⟨ps, hP, hps⟩ := id TB
  obtain ⟨Df, mf, g, fdf, pf1, pf2, pf3, SF⟩ := PA
  refine' enter (binds := [("prog", .ref f), ("chars", .str chars t), ("col", .int col u)]) (Bs.gP Ps s.heap) G.nolimit (G.inH _ _ ?k1) (codeRec_of G.inH ?k2) ?k3 ?k4 ?k5 ?_ ?k6 ?k7 ?k8 ?k9
  case k1 => k_is
  case k2 => k_is
  case k3 => decide
  case k4 => exact BindsTo.of_eq rfl
  case k5 => exact locs rfl
  case k6 => decide
  case k7 => rfl
  case k8 => rfl
  case k9 => rfl
  intro L h₁ F hL kf
  have X := G.X.keeps (gh_gP hP)
  obtain ⟨lo, mn, TP'⟩ := G.T
  have TP := TP'.keeps (gh_gP hP)
  clear TP'
  have N : News (gP Ps s.heap) L h₁ [] := News.nil
  have kp0 : ∀ {h'}, (∀ b o, (gP Ps s.heap).get? b = some o → Heap.get? h' b = some o) → Kp (hideAll s.heap S) h' := fun k => hide_kp.trans (Kp.of_gP hP k)
  have hfn : ∀ {h'}, (∀ b o, (gP Ps s.heap).get? b = some o → Heap.get? h' b = some o) → FnAt g h' := fun k => let ⟨fd, e⟩ := SF.1; ⟨_, _, _, _, kp0 k _ _ e rfl⟩
  have hNs : ∀ {h' m}, Fr (gP Ps s.heap) L h' m → ∀ a ∈ L :: S, Off h' a := fun {h' m} F a ha => by
    rcases List.mem_cons.mp ha with rfl | ha
    · exact Off.ns F.ns
    · exact (hS a ha).kp (Kp.of_gP hP F.keep)
  -- one call of search
  have srch : ∀ {h' : Heap} {tk i : Nat} {m : Str → Option Value} {args : List Value} {A' : Around} {Q' E' : Value → Shared → Prop}, Fr (gP Ps s.heap) L h' m → Tab RS h' Ps → Rm A' 350 350 → i ≤ chars.cps.size →
      ((args = [.str chars t] ∧ i = 0) ∨ ∃ u, args = [.str chars t, .int i u]) →
      (∀ v h'' tk', Fr (gP Ps s.heap) L h'' m → KpB Ps h' h'' → Tab RS (hideAll h'' (L :: S)) Ps → (match runFrom chars.cps.toList letters.cps.toList i with | none => v = .none | some (a, b) => ∃ f, v = .ref f ∧ HitAt w (hideAll h'' (L :: S)) f a b) → Q' v (Sh s h'' tk')) →
      wpAny (model PG w) A' (call (.ref g) args) Q' E' (Sh s h' tk) := by
    intro h' tk i m args A' Q' E' F tb rm' hi ha hq'
    refine SF.2 _ _ _ _ chars t i args (L :: S) (kp0 F.keep) (G.kp (Kp.of_gP hP F.keep)) tb rm' (hNs F) hsz hi ha ?_
    intro v h'' tk' k tb' hr
    have F' := Fr.kpb F k (Nat.ne_of_gt (Nat.lt_of_lt_of_le (Heap.lt_size hP) hL)) gP_none
    exact hq' v h'' tk' F' k (tab_hide tb' (hNs F')) hr
  try dsimp only
  k_steps
  refine Stop.go (getMethod_fn (kp0 F.keep _ _ pf1 rfl) lk_fn_search (Ns.kp pf2 (kp0 F.keep)) pf3 ?_)
  intro tk
  dsimp only
  refine callWith_F (hfn F.keep) ?_
  k_steps
  · exact hfn F.keep
  refine Stop.go (srch (i := 0) F (TabRS.of (fun b o e _ => kf b o e) (kf _ _ hP) hps) (Rm.deeper (by decide) (by decide)) (Nat.zero_le _) (.inl ⟨rfl, rfl⟩) ?_)
  clear F kf N
  intro v h' tk F k tb hr
  clear k
  have N : News (gP Ps s.heap) L h' [] := News.nil
  cases hrun : runFrom chars.cps.toList letters.cps.toList 0 with
  | none =>
    rw [hrun] at hr
    subst hr
    generalize hJ : (fun H : Heap => Tab RS H Ps) = J
    have hm : Mono J := hJ ▸ mono_tab Ps
    have j : J (hideAll h' (L :: S)) := by rw [← hJ]; exact tb
    dsimp only [Sh]
    k_steps
    rename Fr _ _ _ _ => F'
    rename J (hideAll _ _) => j'
    rw [← hJ] at j'
    refine hq _ _ _ (KpB.of_gP F'.keep) (tab_unhide j') ?_
    simp only [runsK, hrun, lastB]
  | some p =>
    obtain ⟨a, b⟩ := p
    rw [hrun] at hr
    obtain ⟨fm, rfl, HA⟩ := hr
    generalize hJ : (fun H : Heap => Tab RS H Ps ∧ HitAt w H fm a b) = J
    have hm : Mono J := hJ ▸ (mono_tab Ps).and (mono_hit w fm a b)
    have j : J (hideAll h' (L :: S)) := by rw [← hJ]; exact ⟨tb, HA⟩
    clear tb HA
    dsimp only [Sh]
    k_steps
    rename J (hideAll _ _) => j'
    have jj := j'
    rw [← hJ] at jj
    obtain ⟨D1, fd1, efm⟩ := jj.2.fn
    refine Stop.go (truthy_fn efm ?_)
    k_steps
    rename Fr _ _ _ _ => F2
    rename J (hideAll _ _) => j2
    have jj := j2
    rw [← hJ] at jj
    refine Stop.go (span_call jj.2 (G.kp (Kp.of_gP hP F2.keep)).nolimit (Rm.deeper (by decide) (by decide)) ?_)
    intro tA h3 tk3 t1 t2 k3 z3 e3
    have F3 := keepsF F2 k3
    have hLt : @LT.lt Nat _ L tA := Nat.lt_of_lt_of_le F2.ns.lt z3
    have N3 : News (gP Ps s.heap) L h3 [(tA, ⟨.type "tuple", none, .seq #[.int a t1, .int b t2] 0, #[]⟩)] := News.cons News.nil e3 (Fr.fresh F2 hLt) (Nat.ne_of_gt hLt)
    have j3 : J (hideAll h3 (L :: S)) := hm _ _ (Kf.hide fun b o _ e => k3 b o e) j2
    clear jj j2 F2
    dsimp only [Sh]
    k_steps
    rename Fr _ _ _ _ => F4
    rename J (hideAll _ _) => j4
    have jj := j4
    rw [← hJ] at jj
    simp only [set_lookup] at F4
    have hab := runFrom_some (Nat.zero_le _) hrun
    rw [Array.length_toList] at hab
    generalize htg : lastB col (runsK chars.cps.toList letters.cps.toList (chars.cps.size + 1) 0) none = tg at hq
    refine letter2 (fun (n : Nat) (s' : Shared) (QQ : Prop) => ∀ (a b : Nat) (fm : Addr) (fv : Value) (r : Option (Nat × Nat)) (h' : Heap) (tk : Nat) (ua ub : Tok), s' = Sh s h' tk → (a < b) → (b ≤ chars.cps.size) → n = chars.cps.size - b → (lastB col ((a, b) :: runsK chars.cps.toList letters.cps.toList (chars.cps.size + 1) b) r = tg) → (Fr (gP Ps s.heap) L h' fun y => List.lookup y [("j", .int b ub), ("i", .int a ua), ("found", fv), ("m", .ref fm), ("col", .int col u), ("chars", .str chars t), ("prog", .ref f)]) → Tab RS (hideAll h' (L :: S)) Ps → HitAt w (hideAll h' (L :: S)) fm a b → HitV w fv r (hideAll h' (L :: S)) → QQ) ?_
    intro I2 mkI2 unI2
    refine letter1 (fun (s' : Shared) (QQ : Prop) => ∀ (fv vm vi vj : Value) (h' : Heap) (tk : Nat), s' = Sh s h' tk → (Fr (gP Ps s.heap) L h' fun y => List.lookup y [("j", vj), ("i", vi), ("found", fv), ("m", vm), ("col", .int col u), ("chars", .str chars t), ("prog", .ref f)]) → Tab RS (hideAll h' (L :: S)) Ps → HitV w fv tg (hideAll h' (L :: S)) → QQ) ?_
    intro R2 mkR2 unR2
    refine Stop.go (while_rule I2
      R2 (chars.cps.size - b) ?_ ?_ ?_)
    · refine mkI2 _ _ fun QQ qq => qq a b fm .none none _ _ t1 t2 rfl hab.2.1 hab.2.2 rfl ?_ (Fr.map F4 ?_) jj.1 jj.2 rfl
      · rw [← htg]
        conv => rhs; rw [runsK, hrun]
        simp only
        rw [lastB, lastB, runsK_enough (k := chars.cps.size + 1) (k' := chars.cps.size) (i := b) (by rw [Array.length_toList]; omega) (by rw [Array.length_toList]; omega) (by rw [Array.length_toList]; omega)]
      · repeat' (first | exact List.forall_mem_nil _ | refine List.forall_mem_cons.mpr ⟨rfl, ?_⟩)
    · clear F4 j4 jj hJ hm hrun hab
      intro n s' hy
      refine unI2 _ _ _ hy ?_
      clear hy
      rintro a b fm fv r h' tk ua ub rfl hab hbn rfl hlast F tb HA HV
      have N : News (gP Ps s.heap) L h' [] := News.nil
      generalize hJ : (fun H : Heap => Tab RS H Ps ∧ HitAt w H fm a b ∧ HitV w fv r H) = J
      have hm : Mono J := hJ ▸ (mono_tab Ps).and ((mono_hit w fm a b).and (mono_hitV w fv r))
      have j : J (hideAll h' (L :: S)) := by rw [← hJ]; exact ⟨tb, HA, HV⟩
      clear tb HA HV
      dsimp only [Sh]
      k_steps
      · omega
      · rename Fr _ _ _ _ => F1
        rename J (hideAll _ _) => j1
        refine Stop.go (getMethod_fn (kp0 F1.keep _ _ pf1 rfl) lk_fn_search (Ns.kp pf2 (kp0 F1.keep)) pf3 ?_)
        intro tk1
        dsimp only
        refine callWith_F (hfn F1.keep) ?_
        k_steps
        · exact hfn F1.keep
        have jj := j1
        rw [← hJ] at jj
        refine Stop.go (srch (i := b) F1 (tab_unhide jj.1) (Rm.deeper (by decide) (by decide)) hbn (.inr ⟨_, rfl⟩) ?_)
        intro v h2 tk2 F2 k2 tb2 hr2
        have kH : Kp (hideAll _ (L :: S)) (hideAll h2 (L :: S)) := kp_of_hide fun b o _ e i => k2.kp (of_hideAll _ jj.1.choose_spec.1) b o e i
        have HA2 := jj.2.1.kp kH
        clear j1 jj F1 j hJ hm
        have N2 : News (gP Ps s.heap) L h2 [] := News.nil
        have hl2 : lastB col (runsK chars.cps.toList letters.cps.toList (chars.cps.size + 1) b) (some (a, b)) = tg := by
          rw [lastB, if_pos ⟨by assumption, by assumption⟩] at hlast; exact hlast
        cases hrun2 : runFrom chars.cps.toList letters.cps.toList b with
        | none =>
          rw [hrun2] at hr2
          subst hr2
          rw [runsK, hrun2] at hl2
          simp only [lastB] at hl2
          generalize hJ : (fun H : Heap => Tab RS H Ps ∧ HitAt w H fm a b) = J
          have hm : Mono J := hJ ▸ (mono_tab Ps).and (mono_hit w fm a b)
          have j : J (hideAll h2 (L :: S)) := by rw [← hJ]; exact ⟨tb2, HA2⟩
          dsimp only [Sh]
          k_steps
          rename Fr _ _ _ _ => F5
          rename J (hideAll _ _) => j5
          rw [← hJ] at j5
          simp only [set_lookup] at F5
          exact mkR2 _ fun QQ qq => qq (.ref fm) .none (.int a ua) (.int b ub) _ _ rfl (Fr.map F5 (by repeat' (first | exact List.forall_mem_nil _ | refine List.forall_mem_cons.mpr ⟨rfl, ?_⟩))) j5.1 (by rw [← hl2]; exact ⟨fm, rfl, j5.2⟩)
        | some p =>
          obtain ⟨a2, b2⟩ := p
          rw [hrun2] at hr2
          obtain ⟨fm2, rfl, HB2⟩ := hr2
          generalize hJ : (fun H : Heap => Tab RS H Ps ∧ HitAt w H fm a b ∧ HitAt w H fm2 a2 b2) = J
          have hm : Mono J := hJ ▸ (mono_tab Ps).and ((mono_hit w fm a b).and (mono_hit w fm2 a2 b2))
          have j : J (hideAll h2 (L :: S)) := by rw [← hJ]; exact ⟨tb2, HA2, HB2⟩
          dsimp only [Sh]
          k_steps
          rename J (hideAll _ _) => j5
          have jj := j5
          rw [← hJ] at jj
          obtain ⟨D1, fd1, efm⟩ := jj.2.2.fn
          refine Stop.go (truthy_fn efm ?_)
          k_steps
          rename Fr _ _ _ _ => F6
          refine Stop.go (span_call jj.2.2 (G.kp (Kp.of_gP hP F6.keep)).nolimit (Rm.deeper (by decide) (by decide)) ?_)
          intro tA h3 tk3 t1 t2 k3 z3 e3
          have F3 := keepsF F6 k3
          have hLt : @LT.lt Nat _ L tA := Nat.lt_of_lt_of_le F6.ns.lt z3
          have N3 : News (gP Ps s.heap) L h3 [(tA, ⟨.type "tuple", none, .seq #[.int a2 t1, .int b2 t2] 0, #[]⟩)] := News.cons News.nil e3 (Fr.fresh F6 hLt) (Nat.ne_of_gt hLt)
          have j3 : J (hideAll h3 (L :: S)) := hm _ _ (Kf.hide fun b o _ e => k3 b o e) j5
          clear jj j5 F6 j
          dsimp only [Sh]
          k_steps
          rename Fr _ _ _ _ => F7
          rename J (hideAll _ _) => j7
          rw [← hJ] at j7
          simp only [set_lookup] at F7
          have hab2 := runFrom_some (by rw [Array.length_toList]; exact hbn) hrun2
          rw [Array.length_toList] at hab2
          refine ⟨chars.cps.size - b2, by omega, ?_⟩
          refine mkI2 _ _ fun QQ qq => qq a2 b2 fm2 (.ref fm) (some (a, b)) _ _ t1 t2 rfl hab2.2.1 hab2.2.2 rfl ?_ (Fr.map F7 (by repeat' (first | exact List.forall_mem_nil _ | refine List.forall_mem_cons.mpr ⟨rfl, ?_⟩))) j7.1 j7.2.2 ⟨fm, rfl, j7.2.1⟩
          rw [runsK, hrun2] at hl2
          simp only at hl2
          rw [← hl2, lastB, lastB, runsK_enough (k := chars.cps.size + 1) (k' := chars.cps.size) (i := b2) (by rw [Array.length_toList]; omega) (by rw [Array.length_toList]; omega) (by rw [Array.length_toList]; omega)]
      · rw [← hJ] at j
        refine mkR2 _ fun QQ qq => qq fv (.ref fm) (.int a ua) (.int b ub) _ _ rfl F j.1 ?_
        rw [lastB, if_neg (by omega)] at hlast
        rw [← hlast]; exact j.2.2
      · rw [← hJ] at j
        refine mkR2 _ fun QQ qq => qq fv (.ref fm) (.int a ua) (.int b ub) _ _ rfl F j.1 ?_
        rw [lastB, if_neg (by omega)] at hlast
        rw [← hlast]; exact j.2.2
    · clear F4 j4 jj hJ hm hrun hab
      intro s' hy
      refine unR2 _ _ hy ?_
      clear hy
      rintro fv vm vi vj h' tk rfl F tb HV
      have N : News (gP Ps s.heap) L h' [] := News.nil
      dsimp only [Sh]
      k_steps
      refine hq _ _ _ (KpB.of_gP F.keep) (tab_unhide tb) ?_
      have HV' := HV.kp hide_sub
      unfold HitV at HV'
      exact HV'
end Mine

-- S3
namespace Mine
open PySem PySem.W PyProof.Rows PySem.Spec PySem.Calls
noncomputable def qLamP : Str := "_law_program" ++ ".<locals>." ++ "<lambda>"
/-- the codes of _law_program's defs -/
noncomputable abbrev Keeps : Type := Addr → Obj → Prop
noncomputable def Outs (T0 : Keeps) (P : Addr) : Prop := P ≠ 77 ∧ ∀ o, ¬ T0 P o
noncomputable def R77 (T0 : Keeps) (line _ : Nat) (c : Addr) (h : Heap) : Prop := if line = 63 then Cd h c qSearch ∧ ∃ Ps, Outs T0 Ps ∧ CodeHd h c Ps ∧ Tab RS h Ps else Cd h c qLamP
/-- other tables, that stay -/
noncomputable def KT (T0 : Keeps) (h : Heap) : Prop := (∀ b o, T0 b o → isTab o = true ∧ b ≠ 77) ∧ ∀ b o, T0 b o → h.get? b = some o
noncomputable def GT (T0 : Keeps) (h : Heap) : Prop := Tab (R77 T0) h 77 ∧ KT T0 h
theorem KT.kpb {T0 : Keeps} {P : Addr} {h h' : Heap} (x : KT T0 h) (k : KpB P h h') (n : ∀ o, ¬ T0 P o) : KT T0 h' := ⟨x.1, fun b o t => k _ _ (by rintro rfl; exact n _ t) (x.2 b o t)⟩
theorem KT.k77 {T0 : Keeps} {h h' : Heap} (x : KT T0 h) (k : KpB 77 h h') : KT T0 h' := x.kpb k fun o t => (x.1 _ _ t).2 rfl
theorem KT.but {T0 : Keeps} {h h' : Heap} {a : Addr} {o : Obj} (x : KT T0 h) (e : h.get? a = some o) (i : isTab o = false) (k : KpB a h h') : KT T0 h' := x.kpb k fun o' t => by
  have := x.2 _ _ t
  rw [e] at this; cases this
  have := (x.1 _ _ t).1
  rw [i] at this; cases this
theorem tabRS_kpb {P Ps : Addr} {h h' : Heap} {ps : Array Value} (e : h.get? P = some (tabObj ps)) (n : Ps ≠ P) (k : KpB P h h') (x : Tab RS h Ps) : Tab RS h' Ps :=
  let ⟨qs, e2, y⟩ := x; TabRS.of (k.kp e) (k _ _ n e2) y
theorem R77.kpb {T0 : Keeps} {h h' : Heap} {l k : Nat} {c : Addr} (e : ∃ ps, h.get? 77 = some (tabObj ps)) (kb : KpB 77 h h') (x : R77 T0 l k c h) : R77 T0 l k c h' := by
  obtain ⟨ps, e⟩ := e
  unfold R77 at x ⊢
  split
  · rename_i hl
    rw [if_pos hl] at x
    obtain ⟨x1, Ps, n, x2, x3⟩ := x
    exact ⟨x1.kp (kb.kp e), Ps, n, CodeHd.kp x2 (kb.kp e), tabRS_kpb e n.1 kb x3⟩
  · rename_i hl
    rw [if_neg hl] at x
    exact x.kp (kb.kp e)
/-- search's table has grown: the table of _law_program stands -/
theorem GT.kpb {T0 : Keeps} {h h' : Heap} {Ps : Addr} (x : GT T0 h) (k : KpB Ps h h') (n : Outs T0 Ps) (t0 : Tab RS h Ps) (t : Tab RS h' Ps) : GT T0 h' := by
  obtain ⟨⟨ps, e, tr, a⟩, kt⟩ := x
  obtain ⟨p0, e0, _⟩ := t0
  have kp := k.kp e0
  refine ⟨⟨ps, k _ _ (Ne.symm n.1) e, tr, fun l c cv q => ?_⟩, kt.kpb k n.2⟩
  obtain ⟨cc, q1, q2⟩ := a l c cv q
  refine ⟨cc, q1, ?_⟩
  unfold R77 at q2 ⊢
  split
  · rename_i hl
    rw [if_pos hl] at q2
    obtain ⟨x1, P2, n2, x2, x3⟩ := q2
    refine ⟨x1.kp kp, P2, n2, CodeHd.kp x2 kp, ?_⟩
    by_cases hq : P2 = Ps
    · rw [hq]; exact t
    · exact tabRS_kpb e0 hq k x3
  · rename_i hl
    rw [if_neg hl] at q2
    exact q2.kp kp
/-- what is no namespace stays where one namespace turns -/
theorem but_ns {h h' : Heap} {L b : Addr} {m : Str → Option Value} {o : Obj} (n : h.Ns L m) (k : KpB L h h') (e : h.get? b = some o) (hd : ∀ es ep, o.data ≠ .dict es ep) : h'.get? b = some o :=
  k _ _ (by rintro rfl; obtain ⟨o2, es, ep, e2, d2, _⟩ := n; rw [e] at e2; cases e2; exact hd _ _ d2) e
theorem CodeHd.butNs {h h' : Heap} {c P L : Addr} {m : Str → Option Value} (x : CodeHd h c P) (n : h.Ns L m) (k : KpB L h h') : CodeHd h' c P :=
  by obtain ⟨o, vs, file, tf, flags, tg, inF, text, tt, e, hc, hd, r⟩ := x; exact ⟨o, vs, file, tf, flags, tg, inF, text, tt, but_ns n k e (fun _ _ q => by rw [hd] at q; cases q), hc, hd, r⟩
theorem GT.butNs {T0 : Keeps} {h h' : Heap} {L : Addr} {m : Str → Option Value} (x : GT T0 h) (n : h.Ns L m) (k : KpB L h h') : GT T0 h' := by
  obtain ⟨⟨ps, e, tr, a⟩, kt⟩ := x
  refine ⟨⟨ps, but_ns n k e (fun _ _ q => by cases q), tr, fun l c cv q => ?_⟩, let ⟨o, _, _, eo, d, _⟩ := n; kt.but eo (by unfold isTab; rw [d]; cases o.cls <;> rfl) k⟩
  obtain ⟨cc, q1, q2⟩ := a l c cv q
  refine ⟨cc, q1, ?_⟩
  unfold R77 at q2 ⊢
  split
  · rename_i hl
    rw [if_pos hl] at q2
    obtain ⟨x1, P2, n2, x2, x3⟩ := q2
    exact ⟨Cd.butNs x1 n k, P2, n2, CodeHd.butNs x2 n k, TabRS.butNs x3 n k⟩
  · rename_i hl
    rw [if_neg hl] at q2
    exact Cd.butNs q2 n k
section
variable {h h' : Heap} {f c P : Addr} {q : Str} {oc : Value} {d : Option Addr} {fd : FuncData} {sl : Array (Option Value)}
theorem Cd.butFn (x : Cd h c q) (n : h.get? f = some ⟨oc, d, .func fd, sl⟩) (k : KpB f h h') : Cd h' c q :=
  let ⟨o, vs, t, e2, hc, hd, r⟩ := x; ⟨o, vs, t, k _ _ (by rintro rfl; rw [n] at e2; cases e2; cases hd) e2, hc, hd, r⟩
theorem CodeHd.butFn (x : CodeHd h c P) (n : h.get? f = some ⟨oc, d, .func fd, sl⟩) (k : KpB f h h') : CodeHd h' c P :=
  by obtain ⟨o, vs, file, tf, flags, tg, inF, text, tt, e, hc, hd, r⟩ := x; exact ⟨o, vs, file, tf, flags, tg, inF, text, tt, k _ _ (by rintro rfl; rw [n] at e; cases e; cases hd) e, hc, hd, r⟩
theorem GT.butFn {T0 : Keeps} (x : GT T0 h) (n : h.get? f = some ⟨oc, d, .func fd, sl⟩) (k : KpB f h h') : GT T0 h' := by
  obtain ⟨⟨ps, e, tr, a⟩, kt⟩ := x
  refine ⟨⟨ps, k _ _ (by rintro rfl; rw [n] at e; cases e) e, tr, fun l c cv q => ?_⟩, kt.but n (by unfold isTab; cases oc <;> rfl) k⟩
  obtain ⟨cc, q1, q2⟩ := a l c cv q
  refine ⟨cc, q1, ?_⟩
  unfold R77 at q2 ⊢
  split
  · rename_i hl
    rw [if_pos hl] at q2
    obtain ⟨x1, P2, n2, x2, x3⟩ := q2
    exact ⟨Cd.butFn x1 n k, P2, n2, CodeHd.butFn x2 n k, TabRS.butFn x3 n k⟩
  · rename_i hl
    rw [if_neg hl] at q2
    exact Cd.butFn q2 n k
end
section
variable {w : World} {A : Around} {E Q : Value → Shared → Prop} {s : Shared} {B : Heap} {f : Addr} {args : List Value} {v : Value}
  {name qual : Str} {params : Arguments} {body : List Stmt} {scope : Scope} {dV kV doc pm cdv ct oc : Value} {an od : Option Addr} {osl : Array (Option Value)}
/-- a def whose one parameter is a cell -/
theorem enter1 (bs : Bs B s.heap) (hlim : s.heap.NoLimit)
    (ho : s.heap.get? f = some ⟨oc, od, .func (fnX name qual params body scope [] dV kV doc pm an cdv ct), osl⟩) (hcd : s.heap.CodeRec cdv qual) (hroom : A.depth < recursionLimit) {x : Str}
    (hbind : BindsTo s (fnX name qual params body scope [] dV kV doc pm an cdv ct) ⟨args, []⟩ [(x, v)]) (hx : scope.names.lookup x = some .cell)
    (hc1 : ∀ n, cellsFrom n scope.names [] = [(x, n)])
    (h : ∀ L h₁ tk, Fr B L h₁ (fun y => List.lookup y []) → h₁.IsCell (L + 1) (some v) → s.heap.objs.size ≤ L → Kf s.heap h₁ →
      wpAny (model PG w) (A.deeper (envX qual scope L f cdv [(x, L + 1)])) (execs body (envX qual scope L f cdv [(x, L + 1)]))
        (fun fl s' => Q (match fl with | .ret v => v | _ => .none) s') (fun _ _ => False) (Sh s h₁ tk))
    (hco : scope.isCoroutine = false := by rfl) (hgen : scope.isGenerator = false := by rfl) (hk : scope.kind = .function := by rfl) :
    wpAny (model PG w) A (call (.ref f) args) Q E s := by
  refine wpAny_call (codeAny_call_function hroom ho rfl hco hgen rfl hcd (hbind _ _ _ _ ?_))
  refine wpAny_newFunctionEnv_cells hk (fun y hy => ?_) fun env he s' ic => ?_
  · rcases List.mem_cons.mp hy with rfl | hy
    · exact .inr ⟨hx, by rw [hc1]; simp⟩
    · cases hy
  · have he2 : env = envX qual scope s.heap.objs.size f cdv [(x, s.heap.objs.size + 1)] := by rw [he, hc1]; rfl
    subst he2
    clear he
    obtain ⟨h₁, tk, rfl⟩ := ic.toInCall.same
    have hkx : (envX qual scope s.heap.objs.size f cdv [(x, s.heap.objs.size + 1)]).kindOf x = some .cell := hx
    have kf : Kf s.heap h₁ := ic.toInCall.keep
    have hns : h₁.Ns s.heap.objs.size (fun y => List.lookup y []) := by
      have := ic.toInCall.ns
      unfold bindL bindL at this
      rw [if_neg (by rw [hkx]; decide)] at this
      exact this
    have hcell : h₁.IsCell (s.heap.objs.size + 1) (some v) := by
      have := ic.cell x (s.heap.objs.size + 1) (by simp)
      unfold bindC bindC at this
      rw [if_neg (by rw [hkx]; decide)] at this
      simpa using this
    refine ⟨hlim.keeps kf, codeAny_func ?_⟩
    exact wpAny_mono (h _ h₁ tk ⟨hns, fun b o e => kf b o (bs.sub b o e), bs.size⟩ hcell (Nat.le_refl _) kf) (fun fl s' x => x) fun _ _ x => x.elim
end
/-- a def with one default that is a written int -/
theorem nestDef1 {M : Model} {A : Around} {E : Value → Shared → Prop} {s : Shared} {env : Env} {name : Str} {params : Arguments} {body : List Stmt} {scope : Scope} {pos p : Pos} {i : Int} {k : Nat} {Q : Flow → Shared → Prop}
    (hd0 : params.defaults = [.Constant (.int i) k p]) (hk0 : params.kw_defaults = []) (ha : annTrees params none env = [])
    (h : wpAny M A (makeFunction name (qualnameIn env name name) params (.stmts body) scope env [.int i s.toks] [] [] pos pos.line) (fun v s' => wpAny M A (storeName env name v) (fun _ s'' => Q .next s'') E s') E { s with toks := s.toks + 1 }) :
    wpAny M A (exec (.FunctionDef name params body [] none [] scope none name pos) env) Q E s := by
  rw [exec_def]
  refine wpAny_bind (wpAny_standAt (wpAny_bind (wpAny_holding ?_)))
  rw [defaultsOf_eq, hd0, hk0, ha]
  refine wpAny_bind (wpAny_evalAll_cons (wpAny_Constant_int (wpAny_evalAll_nil ?_)))
  refine wpAny_bind (wpAny_holding (wpAny_pure ?_))
  refine wpAny_holding (wpAny_bind (wpAny_pure ?_))
  exact wpAny_mono h (fun v s' h' => wpAny_bind (wpAny_standAt (wpAny_bind (wpAny_bindName (wpAny_mono h' (fun _ _ h'' => wpAny_pure h'') fun _ _ x => x))))) fun _ _ x => x
end Mine

-- S4
namespace Mine
open PySem PySem.W PyProof.Rows PySem.Spec PySem.Calls
local macro_rules | `(tactic| walk_at "-") => Lean.Macro.throwUnsupported
local macro_rules | `(tactic| walk_at $s:str) => if ["exec FunctionDef", "eval Lambda", "setAttr ref"].contains s.getString then `(tactic| (refine stop_intro ?_)) else Lean.Macro.throwUnsupported
theorem prog_spec {T0 : Keeps} {w : World} {mg mb : Str → Option Value} {s : Shared} {A : Around} {Q E : Value → Shared → Prop} {letters : Str} {t : Tok} {S : List Addr}
    (G : Gd w mg mb s.heap) (gt : (GT T0) s.heap) (rm : Rm A 340 300) (hS : ∀ a ∈ S, Off s.heap a)
    (hq : ∀ f Ps h' tk, KpB 77 s.heap h' → (GT T0) h' → Outs T0 Ps → Tab RS h' Ps → ProgAt w mg mb (hideAll h' S) f letters Ps → Q (.ref f) (Sh s h' tk)) :
    wpAny (model PG w) A (call (.ref 82) [.str letters t]) Q E s := by
  have : PySem.Challenge.rw_mr0153_01.Holds → (hd.heap_39 w.params).In s.heap → True := by (k_fill; intros; trivial)
  clear this
  refine rm.any ?_
  obtain ⟨⟨ps, hP, hps⟩, kt⟩ := id gt
  have C81 : CodeHd s.heap 81 77 := codeHd_of_K G.inH (by kernel_rfl)
  refine' enter1 (v := .str letters t) (x := "letters") (Bs.gP 77 s.heap) G.nolimit (G.inH _ _ ?k1) (codeRec_of G.inH ?k2) ?k3 ?k4 ?k5 ?k6 ?_ ?k7 ?k8 ?k9
  case k1 => k_is
  case k2 => k_is
  case k3 => decide
  case k4 => exact BindsTo.of_eq rfl
  case k5 => rfl
  case k6 => exact fun n => rfl
  case k7 => rfl
  case k8 => rfl
  case k9 => rfl
  intro L h₁ tk F cL hL kf
  have X := G.X.keeps (gh_gP hP)
  obtain ⟨lo, mn, TP'⟩ := G.T
  have TP := TP'.keeps (gh_gP hP)
  clear TP'
  have N : News (gP 77 s.heap) L h₁ [] := News.nil
  have hPL : @LT.lt Nat _ 77 L := Nat.lt_of_lt_of_le (Heap.lt_size hP) hL
  have kp1 : Kp s.heap h₁ := kf.kp
  have gt1 : Tab (R77 T0) h₁ 77 := ⟨ps, kf _ _ hP, hps.1, fun l c cv q => let ⟨cc, q1, q2⟩ := hps.2 l c cv q; ⟨cc, q1, R77.kpb ⟨ps, hP⟩ (kf.kpb 77) q2⟩⟩
  k_steps
  refine Stop.go (nestDef1 rfl rfl rfl ?_)
  refine mkFn1 (P := 77) (R := R77 T0) (G.kp kp1) (fun _ _ _ _ _ e k r => R77.kpb e k r) rfl rfl rfl (CodeHd.kp C81 kp1) gt1 ?_ ?_
  · intro c' P' h' k z cd ch t0
    unfold R77
    rw [if_pos rfl]
    refine ⟨?_, P', ?_, ch, #[], t0, trivial, fun l k cv q => by cases q⟩
    · exact cd
    · have hlt : @LT.lt Nat _ L P' := Nat.lt_of_lt_of_le F.ns.lt z
      exact ⟨neN (by omega), fun o t => absurd (Nat.lt_of_lt_of_le (Heap.lt_size (kf _ _ (kt.2 _ _ t))) z) (Nat.lt_irrefl _)⟩
  intro f1 c1 ctv1 doc1 h1 tk1 T1 k1 z1 zT1 eT1 e1 r1 t1
  unfold R77 at r1
  rw [if_pos rfl] at r1
  obtain ⟨cd1, Ps, hPs, ch1, tb1⟩ := r1
  have cL1 : h1.IsCell (L + 1) (some (.str letters t)) := let ⟨o, e, d⟩ := cL; ⟨o, k1 _ _ (neN (by omega)) e, d⟩
  have F1 := Fr.kpb F k1 (Nat.ne_of_gt hPL) gP_none
  dsimp only [Sh]
  have hf1 : @LT.lt Nat _ L f1 := Nat.lt_of_lt_of_le F.ns.lt z1
  have hT1 : @LT.lt Nat _ L T1 := Nat.lt_of_lt_of_le F.ns.lt zT1
  clear F
  refine wpAny_storeName_local rfl F1.ns (fun h2 n2 s2 => ?_) rfl
  have kL : KpB L h1 h2 := fun b o n e => (s2.2 b n).trans e
  have F2 := F1.set n2 s2
  have eT2 := kL _ _ (Nat.ne_of_gt hT1) eT1
  have e2 := kL _ _ (Nat.ne_of_gt hf1) e1
  have cd2 := Cd.butNs cd1 F1.ns kL
  have ch2 := CodeHd.butNs ch1 F1.ns kL
  have tb2 := TabRS.butNs tb1 F1.ns kL
  have t2 : (GT T0) h2 := GT.butNs ⟨t1, (kt.k77 (kf.kpb 77)).k77 k1⟩ F1.ns kL
  have cL2 : h2.IsCell (L + 1) (some (.str letters t)) := let ⟨o, e, d⟩ := cL1; ⟨o, kL _ _ (neN (by omega)) e, d⟩
  clear F1 eT1 e1 cd1 ch1 tb1 t1 cL1
  k_steps
  refine Stop.go (kla_eval rfl ?_)
  refine mkFn0 (P := 77) (R := R77 T0) (G.kp (Kp.of_gP hP F2.keep)) (fun _ _ _ _ _ e k r => R77.kpb e k r) rfl rfl rfl (CodeHd.kp C81 (Kp.of_gP hP F2.keep)) t2.1 ?_ ?_
  · intro c' P' h' k z cd ch t0
    unfold R77
    rw [if_neg (by decide)]
    exact cd
  intro f3 c3 ctv3 doc3 h3 tk3 k3 z3 e3 r3 t3
  have hP2 := t2.1.choose_spec.1
  have kt3 := t2.2.k77 k3
  have kp3 := k3.kp hP2
  have F3 := Fr.kpb F2 k3 (Nat.ne_of_gt hPL) gP_none
  have eT3 := kp3 _ _ eT2 rfl
  have e13 := kp3 _ _ e2 rfl
  have cd3 := cd2.kp kp3
  have ch3 := CodeHd.kp ch2 kp3
  have tb3 := tabRS_kpb hP2 hPs.1 k3 tb2
  have cL3 := IsCell.kp cL2 kp3
  have hf3 : @LT.lt Nat _ L f3 := Nat.lt_of_lt_of_le F2.ns.lt z3
  have hf13 : @LT.lt Nat _ f1 f3 := Nat.lt_of_lt_of_le (Heap.lt_size e2) z3
  have hT3 : @LT.lt Nat _ T1 f3 := Nat.lt_of_lt_of_le (Heap.lt_size eT2) z3
  clear F2 eT2 e2 cd2 ch2 tb2 t2 cL2 r3 hP2
  dsimp only [Sh]
  refine wpAny_storeName_local rfl F3.ns (fun h4 n4 s4 => ?_) rfl
  have kL4 : KpB L h3 h4 := fun b o n e => (s4.2 b n).trans e
  have F4 := F3.set n4 s4
  have eT4 := kL4 _ _ (Nat.ne_of_gt hT1) eT3
  have e14 := kL4 _ _ (Nat.ne_of_gt hf1) e13
  have e34 := kL4 _ _ (Nat.ne_of_gt hf3) e3
  have cd4 := Cd.butNs cd3 F3.ns kL4
  have ch4 := CodeHd.butNs ch3 F3.ns kL4
  have tb4 := TabRS.butNs tb3 F3.ns kL4
  have t4 : (GT T0) h4 := GT.butNs ⟨t3, kt3⟩ F3.ns kL4
  have cL4 : h4.IsCell (L + 1) (some (.str letters t)) := let ⟨o, e, d⟩ := cL3; ⟨o, kL4 _ _ (neN (by omega)) e, d⟩
  clear F3 eT3 e13 cd3 ch3 tb3 t3 cL3 e3
  k_steps
  refine Stop.go (setAttr_fn e34 lk_fn_search ?_)
  intro h5 tk5 D zD e35 nD k5
  have k5' : KpB f3 h4 h5 := fun b o n e => k5 b o n e
  have F5 := Fr.kpb F4 k5' (Nat.ne_of_lt hf3) (Fr.fresh F4 hf3)
  have eT5 := k5' _ _ (Nat.ne_of_lt hT3) eT4
  have e15 := k5' _ _ (Nat.ne_of_lt hf13) e14
  have cd5 := Cd.butFn cd4 e34 k5'
  have ch5 := CodeHd.butFn ch4 e34 k5'
  have tb5 := TabRS.butFn tb4 e34 k5'
  have t5 := GT.butFn t4 e34 k5'
  have cL5 : h5.IsCell (L + 1) (some (.str letters t)) := let ⟨o, e, d⟩ := cL4; ⟨o, k5' _ _ (by rintro rfl; rw [e34] at e; cases e; cases d) e, d⟩
  have hD : @LT.lt Nat _ L D := Nat.lt_of_lt_of_le F4.ns.lt zD
  clear F4 eT4 e14 cd4 ch4 tb4 t4 cL4
  k_steps
  refine hq _ Ps _ _ (KpB.of_gP F5.keep) t5 hPs tb5 ?_
  have kf5 := KpB.of_gP F5.keep
  have hS1 : ∀ a, s.heap.objs.size ≤ a → a ∉ S := fun a ha hm => absurd (hS a hm).lt (Nat.not_lt.mpr ha)
  have hS2 : ∀ {b o vs}, h5.get? b = some o → o.cls = .type "code" → o.data = .fields vs → b ∉ S := fun {b o vs} e hc hd hm => by
    obtain ⟨o2, q1, q2, q4⟩ := hS _ hm
    have q3 := kf5.kp hP _ _ q1 q2
    rw [e] at q3; cases q3; exact q4 _ hc hd
  obtain ⟨oD, es, ep, eD, rD⟩ := nD
  obtain ⟨oc, vs, tt, ec, hcc, hcd, rc⟩ := cd5
  obtain ⟨ow, vw, file, tf, flags, tg, inF, text, ttt, ew, hwc, hwd, rw'⟩ := ch5
  obtain ⟨ol, el, dl⟩ := cL5
  have g3 := hideAll_get S e35 (hS1 _ (by omega))
  have gD := hideAll_get S eD (hS1 _ (by omega))
  have g1 := hideAll_get S e15 (hS1 _ (by omega))
  have gT := hideAll_get S eT5 (hS1 _ (by omega))
  have gc := hideAll_get S ec (hS2 ec hcc hcd)
  have gw := hideAll_get S ew (hS2 ew hwc hwd)
  have gl := hideAll_get S el (hS1 _ (by omega))
  refine ⟨D, _, f1, _, g3, ⟨oD, es, ep, gD, rD⟩, by simp, ?_⟩
  exact search_fn (by k_is) g1 gT ⟨oc, vs, tt, gc, hcc, hcd, rc⟩ ⟨ol, gl, dl⟩ ⟨ow, vw, file, tf, flags, tg, inF, text, ttt, gw, hwc, hwd, rw'⟩
end Mine

-- S5a
namespace Mine
open PySem PySem.W PyProof.Rows PySem.Spec PySem.Calls
/-- for x in range(..), a state over the turn's number -/
theorem for_range {w : World} {A : Around} {E : Value → Shared → Prop} {s : Shared} {env : Env} {Q : Flow → Shared → Prop} {x : Str} {px : Pos} {body : List Stmt} {r : Addr} {a b : Int} {t u v : Tok} {n : Nat}
    (hh : A.handled = none) (hr : IsRange s.heap r a b 1 t u v) (hsmall : Builtin.Range.small a b 1 = true) (hn : Builtin.Range.rangeSize a b 1 = n)
    (I : Addr → Nat → Shared → Prop) (R : Shared → Prop)
    (h0 : ∀ it h', it = s.heap.objs.size → Kf s.heap h' → IsRangeIter h' it a n 1 → I it 0 { s with heap := h' })
    (hI : ∀ it k s', I it k s' → IsRangeIter s'.heap it (a + k) ((n : Int) - k) 1)
    (turn : ∀ it k s' h₁, k < n → I it k s' → IsRangeIter h₁ it (a + (k + 1 : Nat)) ((n : Int) - (k + 1 : Nat)) 1 → Heap.SameBut it s'.heap h₁ →
      wpAny (model PG w) A (storeName env x (.int (a + k) s'.toks)) (fun _ s₂ => wpAny (model PG w) A (execs body env) (fun f s₃ => match f with
        | .next | .cont => Stop (I it (k + 1) s₃)
        | .brk => Stop (R s₃)
        | .ret v => Q (.ret v) s₃) (fun _ _ => False) s₂) (fun _ _ => False) { s' with heap := h₁, toks := s'.toks + 1 })
    (last : ∀ it s' h₁, I it n s' → Heap.ExtBut it s'.heap h₁ → R { s' with heap := h₁ }) (after : ∀ s', R s' → Q .next s') :
    wpAny (model PG w) A (pyIter (.ref r)) (fun it s₂ =>
      codeAny (model PG w) A (.forLoop (.Name x px) it body [] env) (fun r s' => match r with | .ok f => Q f s' | .error e => cameBackBy (model PG w) A env E e s') s₂) E s := by
  refine wpAny_pyIter_range hr hsmall ?_
  refine codeAny_forLoop (fun m s' => ∃ k, k ≤ n ∧ m = n - k ∧ I s.heap.objs.size k s') ?_ n ⟨0, Nat.zero_le _, rfl, h0 _ _ rfl (fun b o e => Heap.get?_push_of_some _ e) (by rw [← hn]; exact Heap.get?_push_size _ rfl)⟩
  rintro m s' ⟨k, hk, rfl, hi⟩
  by_cases hlt : k < n
  · refine wpAny_pyNext_range_item (hI _ _ _ hi) (by omega) fun h₁ hit₁ hs₁ => ?_
    have hit₂ : IsRangeIter h₁ s.heap.objs.size (a + (k + 1 : Nat)) ((n : Int) - (k + 1 : Nat)) 1 := by
      have e1 : a + ((k + 1 : Nat) : Int) = a + k + 1 := by omega
      have e2 : (n : Int) - ((k + 1 : Nat) : Int) = (n : Int) - k - 1 := by omega
      rw [e1, e2]; exact hit₁
    refine wpAny_assign_Name (wpAny_mono (turn _ k s' h₁ hlt hi hit₂ hs₁) (fun _ s₂ h₂ => ?_) fun _ _ x => x.elim)
    refine wpAny_mono h₂ (fun f s₃ h₃ => ?_) fun _ _ x => x.elim
    cases f with
    | next => exact ⟨n - (k + 1), by omega, k + 1, hlt, rfl, h₃⟩
    | cont => exact ⟨n - (k + 1), by omega, k + 1, hlt, rfl, h₃⟩
    | brk => exact after _ h₃
    | ret v => exact h₃
  · have hkn : k = n := by omega
    subst hkn
    refine wpAny_pyNext_range_end hh (hI _ _ _ hi) (by omega) fun h₁ he₁ => wpAny_execs_nil (after _ (last _ _ _ hi he₁))
noncomputable def tx (n : Int) : Str := Str.ofString (toString n)
noncomputable def place (k : Nat) (p : Nat × Nat) : Str × Str := (tx (k + 1 : Nat) ++ "." ++ tx p.1, tx (k + 1 : Nat) ++ "." ++ tx p.2)
noncomputable def runsOf (letters r : Str) : List (Nat × Nat) := runsK r.cps.toList letters.cps.toList (r.cps.size + 1) 0
noncomputable def rowPlaces (letters : Str) (k : Nat) (r : Str) : List (Str × Str) := (runsOf letters r).reverse.map (place k)
noncomputable def placesUp (letters : Str) (rows : List Str) (k : Nat) : List (Str × Str) := (List.range k).flatMap fun i => rowPlaces letters i (rows.getD i Str.empty)
/-- runs that lie one behind the other, from i on -/
noncomputable def Ordd : Nat → List (Nat × Nat) → Prop
  | _, [] => True
  | i, (a, b) :: r => i ≤ a ∧ a < b ∧ Ordd b r
theorem runsK_ord {cs ls : List Nat} : ∀ k i, i ≤ cs.length → Ordd i (runsK cs ls k i) ∧ ∀ p ∈ runsK cs ls k i, p.2 ≤ cs.length
  | 0, i, _ => ⟨trivial, fun _ h => (nomatch h)⟩
  | k + 1, i, hi => by
    unfold runsK
    cases q : runFrom cs ls i with
    | none => exact ⟨trivial, fun _ h => (nomatch h)⟩
    | some p =>
      obtain ⟨a, b⟩ := p
      have h := runFrom_some hi q
      have ih := runsK_ord (cs := cs) (ls := ls) k b h.2.2
      refine ⟨⟨h.1, h.2.1, ih.1⟩, fun p hp => ?_⟩
      rcases List.mem_cons.mp hp with rfl | hp
      · exact h.2.2
      · exact ih.2 p hp
theorem lastB_take {col : Int} : ∀ {pre post : List (Nat × Nat)} {r : Option (Nat × Nat)}, (∀ p ∈ pre, (p.1 : Int) < col ∧ (p.2 : Int) ≤ col) → (∀ p, post.head? = some p → ¬ ((p.1 : Int) < col ∧ (p.2 : Int) ≤ col)) →
    lastB col (pre ++ post) r = pre.getLast?.or r
  | [], [], r, _, _ => rfl
  | [], (a, b) :: post, r, _, h => by
    show lastB col ((a, b) :: post) r = r
    rw [lastB, if_neg (h (a, b) rfl)]
  | (a, b) :: pre, post, r, h1, h2 => by
    show lastB col ((a, b) :: (pre ++ post)) r = _
    rw [lastB, if_pos (h1 (a, b) (.head _)), lastB_take (fun p hp => h1 p (.tail _ hp)) h2]
    cases pre with
    | nil => rfl
    | cons q pre =>
      rw [List.getLast?_cons_cons, List.getLast?_eq_some_getLast (List.cons_ne_nil q pre)]
      rfl
theorem ordd_mem {i : Nat} : ∀ {l : List (Nat × Nat)}, Ordd i l → ∀ p ∈ l, i ≤ p.1 ∧ p.1 < p.2
  | (a, b) :: r, h, p, hp => by
    rcases List.mem_cons.mp hp with rfl | hp
    · exact ⟨h.1, h.2.1⟩
    · have := ordd_mem h.2.2 p hp
      have := h.2.1
      have := h.1
      omega
theorem ordd_split {i : Nat} : ∀ {pre post : List (Nat × Nat)} {a b : Nat}, Ordd i (pre ++ (a, b) :: post) → (∀ p ∈ pre, p.1 < p.2 ∧ p.2 ≤ a) ∧ a < b
  | [], post, a, b, h => ⟨fun _ h => (nomatch h), h.2.1⟩
  | (c, d) :: pre, post, a, b, h => by
    have ih := ordd_split (i := d) (pre := pre) (post := post) (a := a) (b := b) h.2.2
    have hm := ordd_mem (i := d) h.2.2 (a, b) (by simp)
    refine ⟨fun p hp => ?_, ih.2⟩
    rcases List.mem_cons.mp hp with rfl | hp
    · exact ⟨h.2.1, hm.1⟩
    · exact ih.1 p hp
theorem lastB_mid {i : Nat} {pre post : List (Nat × Nat)} {a b : Nat} {col : Int} (h : Ordd i (pre ++ (a, b) :: post)) (h1 : (a : Int) ≤ col) (h2 : col < b) : lastB col (pre ++ (a, b) :: post) none = pre.getLast? := by
  have hs := ordd_split h
  rw [lastB_take (fun p hp => by have := hs.1 p hp; omega) (fun p hp => by cases hp; show ¬ ((a : Int) < col ∧ (b : Int) ≤ col); omega)]
  simp
theorem lastB_all {i n : Nat} {l : List (Nat × Nat)} (h : Ordd i l) (hb : ∀ p ∈ l, p.2 ≤ n) : lastB (n : Int) l none = l.getLast? := by
  have := lastB_take (col := (n : Int)) (pre := l) (post := []) (r := none) (fun p hp => by have := hb p hp; have := ordd_mem h p hp; omega) (fun p hp => by cases hp)
  rw [List.append_nil] at this
  rw [this]; simp
/-- a frame's names, some of them not yet bound -/
noncomputable def lkO (l : List (Str × Option Value)) (y : Str) : Option Value := (List.lookup y l).join
theorem set_lkO (y x : Str) (v : Value) (l : List (Str × Option Value)) : (if y = x then some v else lkO l y) = lkO ((x, some v) :: l) y := by
  unfold lkO
  rw [List.lookup_cons]
  by_cases h : y = x
  · subst h; simp
  · have hb : (y == x) = false := beq_eq_false_iff_ne.mpr h
    simp only [hb, h, if_false]
theorem lkO_none_of {l : List (Str × Option Value)} {y : Str} (h : y ∉ l.map (·.1)) : lkO l y = none := by
  unfold lkO
  induction l with
  | nil => rfl
  | cons p r ih =>
    rw [List.map_cons, List.mem_cons, not_or] at h
    rw [show p = (p.1, p.2) from rfl, List.lookup_cons, beq_eq_false_iff_ne.mpr h.1]
    exact ih h.2
theorem lkO_ext {l1 l2 : List (Str × Option Value)} (h : ∀ k ∈ l1.map (·.1) ++ l2.map (·.1), lkO l1 k = lkO l2 k) : lkO l1 = lkO l2 := by
  funext y
  by_cases hy : y ∈ l1.map (·.1) ++ l2.map (·.1)
  · exact h y hy
  · rw [List.mem_append, not_or] at hy
    rw [lkO_none_of hy.1, lkO_none_of hy.2]
theorem Fr.mapO {B h : Heap} {L : Addr} {l1 l2 : List (Str × Option Value)} (F : Fr B L h (fun y => lkO l1 y)) (e : ∀ k ∈ l1.map (·.1) ++ l2.map (·.1), lkO l1 k = lkO l2 k) : Fr B L h (fun y => lkO l2 y) := by
  have := lkO_ext e
  rw [show (fun y => lkO l2 y) = lkO l2 from rfl, ← this]; exact F
/-- two lists of names say the same of each of the names -/
noncomputable def agree (l1 l2 : List (Str × Option Value)) : List Str → Prop
  | [] => True
  | k :: r => lkO l1 k = lkO l2 k ∧ agree l1 l2 r
theorem agree_mem {l1 l2 : List (Str × Option Value)} : ∀ {ks : List Str}, agree l1 l2 ks → ∀ k ∈ ks, lkO l1 k = lkO l2 k
  | [], _, k, hk => by cases hk
  | a :: r, h, k, hk => by
    rcases List.mem_cons.mp hk with e | m
    · rw [e]; exact h.1
    · exact agree_mem h.2 k m
theorem Fr.mapA (ks : List Str) {B h : Heap} {L : Addr} {l1 l2 : List (Str × Option Value)} (F : Fr B L h (fun y => lkO l1 y)) (a1 : (l1.map (·.1)).all (fun k => ks.contains k) = true) (a2 : (l2.map (·.1)).all (fun k => ks.contains k) = true)
    (e : agree l1 l2 ks) : Fr B L h (fun y => lkO l2 y) := by
  refine Fr.mapO F fun k hk => agree_mem e k ?_
  rcases List.mem_append.mp hk with hk | hk
  · exact List.contains_iff_mem.mp (List.all_eq_true.mp a1 k hk)
  · exact List.contains_iff_mem.mp (List.all_eq_true.mp a2 k hk)
theorem lookup_lkO (y : Str) (l : List (Str × Value)) : List.lookup y l = lkO (l.map fun p => (p.1, some p.2)) y := by
  unfold lkO
  induction l with
  | nil => rfl
  | cons p r ih =>
    rw [show p = (p.1, p.2) from rfl, List.lookup_cons, List.map_cons, List.lookup_cons]
    cases y == p.1 with
    | true => rfl
    | false => exact ih
section
variable {w : World} {A : Around} {E : Value → Shared → Prop} {s : Shared} {h₀ : Heap} {L : Addr} {m : Str → Option Value} {news : List (Addr × Obj)} {J : Heap → Prop} {S : List Addr}
/-- a new list, to be changed later: it is hidden from what is known beside -/
theorem newListJ {vs : List Value} {Q : Value → Shared → Prop} (hm : Mono J) (F : Fr h₀ L s.heap m) (N : News h₀ L s.heap news) (j : J (hideAll s.heap (L :: S)))
    (h : ∀ a h', @LT.lt Nat _ L a → (∀ p ∈ news, p.1 < a) → Fr h₀ L h' m → News h₀ L h' ((a, ⟨.type "list", none, .seq vs.toArray 0, #[]⟩) :: news) → J (hideAll h' (L :: a :: S)) → Q (.ref a) { s with heap := h' }) (hsz : vs.length ≤ sizeLine := by size_fits) :
    wpAny (model PG w) A (newList vs) Q E s := by
  refine wpAny_newObj_type (h s.heap.objs.size _ F.ns.lt (fun p hp => Heap.lt_size (N p hp).1) (F.push _) (N.push F _) (hm _ _ (fun b o e => ?_) j)) (by show vs.toArray.size ≤ sizeLine; rw [List.size_toArray]; exact hsz)
  have hb : b ∉ L :: S := fun hm => by rw [hideAll_none _ hm] at e; cases e
  have e' := of_hideAll _ e
  refine hideAll_get _ (Heap.get?_push_of_some _ e') fun hm => ?_
  rcases List.mem_cons.mp hm with rfl | hm
  · exact hb (.head _)
  rcases List.mem_cons.mp hm with rfl | hm
  · exact absurd (Heap.lt_size e') (Nat.lt_irrefl _)
  · exact hb (.tail _ hm)
end
section
variable {prog : Program} {w : World} {A : Around} {E : Value → Shared → Prop} {s : Shared} {value slice : PySem.Expr} {l : Addr} {vs : List Value} {k : Nat} {n : Nat} {u : Tok} {v : Value} {Q : Value → Shared → Prop}
theorem item_list (ho : s.heap.get? l = some ⟨.type "list", none, .seq vs.toArray n, #[]⟩) (hhi : (k : Int) < 2 ^ 63) (hx : vs[k]? = some v) (h : Q v s)
    (hs : subscripted slice false (.ref l) (.int (k : Int) u) = operate [.ref l, .int (k : Int) u] (getItem (.ref l) (.int (k : Int) u)) := by with_unfolding_all rfl) :
    wpAny (model prog w) A (subscriptTail value slice (.ref l) (.int (k : Int) u)) Q E s :=
  have hl : s.heap.IsList l vs.toArray := ⟨_, ho, rfl, n, rfl⟩
  tail_any hl.typeIs slot_list_getitem.lookup (wpAny_getItem_list hl (Int.natCast_nonneg k) hhi (by simpa using hx) h) hs
theorem len_list (ho : s.heap.get? l = some ⟨.type "list", none, .seq vs.toArray n, #[]⟩) (hhi : (vs.length : Int) < 2 ^ 63) (h : ∀ tk tk', Q (.int (vs.length : Nat) tk) { s with toks := tk' }) :
    wpAny (model prog w) A (call (.builtin "len") [.ref l]) Q E s :=
  have hl : s.heap.IsList l vs.toArray := ⟨_, ho, rfl, n, rfl⟩
  call_len_list hl (by simpa using hhi) (by simpa using h _ _)
end
theorem mono_R77 {T0 : Keeps} {l k : Nat} {c : Addr} : Mono (R77 T0 l k c) := fun H H' kf x => by
  unfold R77 at x ⊢
  split
  · rename_i hl
    rw [if_pos hl] at x
    obtain ⟨x1, Ps, n, x2, x3⟩ := x
    exact ⟨x1.kp kf.kp, Ps, n, CodeHd.kp x2 kf.kp, mono_tab _ _ _ kf x3⟩
  · rename_i hl
    rw [if_neg hl] at x
    exact x.kp kf.kp
theorem mono_GT {T0 : Keeps} : Mono (GT T0) := fun H H' k x => by
  obtain ⟨⟨ps, e, tr, a⟩, kt⟩ := x
  exact ⟨⟨ps, k _ _ e, tr, fun l c cv q => let ⟨cc, q1, q2⟩ := a l c cv q; ⟨cc, q1, mono_R77 _ _ k q2⟩⟩, kt.1, fun b o t => k _ _ (kt.2 b o t)⟩
theorem GT.unhide {T0 : Keeps} {h : Heap} {S : List Addr} (x : (GT T0) (hideAll h S)) : (GT T0) h := mono_GT _ _ (fun b o e => of_hideAll _ e) x
theorem GT.hide {T0 : Keeps} {h : Heap} {S : List Addr} (x : (GT T0) h) (hS : ∀ a ∈ S, Off h a) : (GT T0) (hideAll h S) := by
  obtain ⟨⟨ps, e, tr, a⟩, kt⟩ := x
  have offc : ∀ {c o vs}, h.get? c = some o → o.cls = .type "code" → o.data = .fields vs → c ∉ S := fun {c o vs} e2 hc hd hm => by
    obtain ⟨o2, e3, _, n⟩ := hS _ hm
    rw [e2] at e3; cases e3; exact n _ hc hd
  refine ⟨⟨ps, hideAll_get _ e fun hm => ?_, tr, fun l c cv q => ?_⟩, kt.1, fun b o t => hideAll_get _ (kt.2 b o t) fun hm => ?_⟩
  · obtain ⟨o, e2, i, _⟩ := hS _ hm
    rw [e] at e2; cases e2; cases i
  rotate_left
  · obtain ⟨o2, e2, i, _⟩ := hS _ hm
    rw [kt.2 b o t] at e2; cases e2
    rw [(kt.1 b o t).1] at i; cases i
  obtain ⟨cc, q1, q2⟩ := a l c cv q
  refine ⟨cc, q1, ?_⟩
  have cdh : ∀ {c q}, Cd h c q → Cd (hideAll h S) c q := fun ⟨o, vs, t, e2, hc, hd, r⟩ => ⟨o, vs, t, hideAll_get _ e2 (offc e2 hc hd), hc, hd, r⟩
  unfold R77 at q2 ⊢
  split
  · rename_i hl
    rw [if_pos hl] at q2
    obtain ⟨x1, P2, n2, ⟨o, vs, file, tf, flags, tg, inF, text, tt, e2, hc, hd, r⟩, x3⟩ := q2
    exact ⟨cdh x1, P2, n2, ⟨o, vs, file, tf, flags, tg, inF, text, tt, hideAll_get _ e2 (offc e2 hc hd), hc, hd, r⟩, tab_hide x3 hS⟩
  · rename_i hl
    rw [if_neg hl] at q2
    exact cdh q2
theorem mono_prog (w : World) (mg mb : Str → Option Value) (f : Addr) (letters : Str) (Ps : Addr) : Mono fun H => ProgAt w mg mb H f letters Ps := fun H H' k x => x.kp k.kp
/-- a list of texts -/
noncomputable def StrsAt (h : Heap) (a : Addr) (rows : List Str) : Prop := ∃ (vs : List Value) (n : Nat), h.get? a = some ⟨.type "list", none, .seq vs.toArray n, #[]⟩ ∧ vs.length = rows.length ∧ ∀ (k : Nat) (r : Str), rows[k]? = some r → ∃ t : Tok, vs[k]? = some (Value.str r t)
noncomputable def TupOf (h : Heap) (v : Value) (p : Str × Str) : Prop := ∃ (tA : Addr) (t1 t2 : Tok), v = .ref tA ∧ h.get? tA = some ⟨.type "tuple", none, .seq #[.str p.1 t1, .str p.2 t2] 0, #[]⟩
noncomputable def TupsOf (h : Heap) : List Value → List (Str × Str) → Prop
  | [], [] => True
  | v :: vs, p :: ps => TupOf h v p ∧ TupsOf h vs ps
  | _, _ => False
noncomputable def PlacesAt (h : Heap) (a : Addr) (ps : List (Str × Str)) : Prop := ∃ (vs : List Value) (n : Nat), h.get? a = some ⟨.type "list", none, .seq vs.toArray n, #[]⟩ ∧ TupsOf h vs ps
theorem TupOf.kp {h h' : Heap} {v : Value} {p : Str × Str} (x : TupOf h v p) (k : Kp h h') : TupOf h' v p := let ⟨a, t1, t2, e, g⟩ := x; ⟨a, t1, t2, e, k _ _ g rfl⟩
theorem TupsOf.kp {h h' : Heap} (k : Kp h h') : ∀ {vs : List Value} {ps : List (Str × Str)}, TupsOf h vs ps → TupsOf h' vs ps
  | [], [], _ => trivial
  | _ :: _, _ :: _, x => ⟨x.1.kp k, TupsOf.kp k x.2⟩
theorem mono_tups (vs : List Value) (ps : List (Str × Str)) : Mono fun H => TupsOf H vs ps := fun _ _ k x => TupsOf.kp k.kp x
theorem TupsOf.snoc {h : Heap} {v : Value} {p : Str × Str} : ∀ {vs : List Value} {ps : List (Str × Str)}, TupsOf h vs ps → TupOf h v p → TupsOf h (vs ++ [v]) (ps ++ [p])
  | [], [], _, y => ⟨y, trivial⟩
  | _ :: _, _ :: _, x, y => ⟨x.1, TupsOf.snoc x.2 y⟩
theorem TupsOf.length {h : Heap} : ∀ {vs : List Value} {ps : List (Str × Str)}, TupsOf h vs ps → vs.length = ps.length
  | [], [], _ => rfl
  | _ :: _, _ :: _, x => congrArg (· + 1) (TupsOf.length x.2)
theorem placesUp_succ {letters : Str} {rows : List Str} {k : Nat} {r : Str} (h : rows[k]? = some r) : placesUp letters rows (k + 1) = placesUp letters rows k ++ rowPlaces letters k r := by
  unfold placesUp
  rw [List.range_succ, List.flatMap_append]
  simp [List.getD, h]
section
variable {w : World} {A : Around} {E : Value → Shared → Prop} {s : Shared} {h₀ : Heap} {L : Addr} {m : Str → Option Value} {news : List (Addr × Obj)} {J : Heap → Prop} {S : List Addr}
theorem newTupleJ {vs : List Value} {Q : Value → Shared → Prop} (hm : Mono J) (F : Fr h₀ L s.heap m) (N : News h₀ L s.heap news) (j : J (hideAll s.heap (L :: S)))
    (h : ∀ a h', @LT.lt Nat _ L a → (∀ p ∈ news, p.1 < a) → Fr h₀ L h' m → News h₀ L h' ((a, ⟨.type "tuple", none, .seq vs.toArray 0, #[]⟩) :: news) → J (hideAll h' (L :: S)) → Q (.ref a) { s with heap := h' }) (hsz : vs.length ≤ sizeLine := by size_fits) :
    wpAny (model PG w) A (newTuple vs) Q E s := by
  refine wpAny_newObj_type (h s.heap.objs.size _ F.ns.lt (fun p hp => Heap.lt_size (N p hp).1) (F.push _) (N.push F _) (hm _ _ (Kf.hide fun b o _ e => Heap.get?_push_of_some _ e) j)) (by show vs.toArray.size ≤ sizeLine; rw [List.size_toArray]; exact hsz)
end
theorem runsK_len {cs ls : List Nat} : ∀ k i, (runsK cs ls k i).length ≤ k
  | 0, _ => Nat.le_refl _
  | k + 1, i => by
    unfold runsK
    split
    · exact Nat.zero_le _
    · have := runsK_len (cs := cs) (ls := ls) k (by assumption)
      simp only [List.length_cons]; omega
theorem rowPlaces_len {letters r : Str} {k : Nat} (h : r.cps.size ≤ 10) : (rowPlaces letters k r).length ≤ 11 := by
  unfold rowPlaces runsOf
  rw [List.length_map, List.length_reverse]
  exact Nat.le_trans (runsK_len _ _) (by omega)
theorem placesUp_len {letters : Str} {rows : List Str} (h : ∀ r ∈ rows, r.cps.size = 10) : ∀ k, (placesUp letters rows k).length ≤ 11 * k
  | 0 => by simp [placesUp]
  | k + 1 => by
    have ih := placesUp_len (letters := letters) h k
    unfold placesUp at ih ⊢
    rw [List.range_succ, List.flatMap_append, List.length_append]
    have : (rowPlaces letters k (rows.getD k Str.empty)).length ≤ 11 := by
      refine rowPlaces_len ?_
      rw [List.getD_eq_getElem?_getD]
      cases q : rows[k]? with
      | none => exact Nat.zero_le _
      | some r => exact Nat.le_of_eq (h r (List.mem_of_getElem? q))
    simp only [List.flatMap_cons, List.flatMap_nil, List.append_nil]
    omega
theorem tx_len {n : Nat} (h : n < 40) : (tx n).cps.size ≤ 2 := by
  have : ∀ n : Fin 40, (tx (n.val : Nat)).cps.size ≤ 2 := by decide +kernel
  exact this ⟨n, h⟩
theorem add_txt {w : World} {A : Around} {E Q : Value → Shared → Prop} {s : Shared} {x y : Str} {t u : Tok} (hz : x.cps.size + y.cps.size ≤ 1000)
    (h : ∀ t' k, Q (.str (x ++ y) t') { s with toks := k }) : wpAny (model PG w) A (binaryOp .Add (.str x t) (.str y u)) Q E s :=
  PyProof.Rows.add_str h (by show x.cps.size + y.cps.size ≤ sizeLine; rw [sizeLine_eq]; omega)
theorem extButF {B h h' : Heap} {L a : Addr} {m : Str → Option Value} (F : Fr B L h m) (he : Heap.ExtBut a h h') (ha : a ≠ L) (hb : B.get? a = none) : Fr B L h' m :=
  ⟨F.ns.extBut he (Ne.symm ha), fun b o e => he b o (by rintro rfl; rw [hb] at e; cases e) (F.keep b o e), F.above⟩
end Mine

-- S5
namespace Mine
open PySem PySem.W PyProof.Rows PySem.Spec PySem.Calls
local macro_rules | `(tactic| walk_at "call builtin:len") => `(tactic| (refine len_at (by assumption) ?_; intro _ _))
local macro_rules | `(tactic| walk_at "-") => Lean.Macro.throwUnsupported
local macro_rules | `(tactic| walk_at $s:str) => if ["exec For Name Call cons nil", "exec While", "getMethod ref", "call ref", "pyIter ref", "call type:range cons nil", "call builtin:list.append"].contains s.getString then `(tactic| (refine stop_intro ?_)) else if s.getString == "newList" then `(tactic| (k_dflt (refine' newListJ ?m ?F ?N ?j ?_ ?z; (case m => assumption); (case F => k_asm); (case N => k_asm); (case j => assumption); (case z => size_fits); k_whole; intro a' h' la1 la2 F' N' J'; (try k_sweep)))) else if s.getString == "subscriptTail Name Name ref int" then `(tactic| (k_dflt (refine' item_list ?o ?z ?x ?_; (case o => exact Fr.keep (by k_asm) _ _ (by assumption)); (case z => omega); (case x => assumption)))) else if s.getString == "call builtin:len" then `(tactic| (k_dflt (refine' len_list ?o ?z ?_; (case o => exact Fr.keep (by k_asm) _ _ (by assumption)); (case z => omega)); intro _ _)) else if s.getString == "newTuple" then `(tactic| (k_dflt (refine' newTupleJ ?m ?F ?N ?j ?_ ?z; (case m => assumption); (case F => k_asm); (case N => k_asm); (case j => assumption); (case z => size_fits); k_whole; intro a' h' la1 la2 F' N' J'; (try k_sweep)))) else if s.getString == "binaryOp Add str str" then `(tactic| (k_dflt (refine add_txt (by assumption) ?_); intro _ _)) else Lean.Macro.throwUnsupported
noncomputable abbrev namesS5 : List Str := ["k", "line", "hit", "first", "behind", "places", "prog", "letters", "rows"]
theorem places_spec {T0 : Keeps} {w : World} {mg mb : Str → Option Value} {s : Shared} {A : Around} {Q E : Value → Shared → Prop} {letters : Str} {t : Tok} {rA : Addr} {rows : List Str}
    (G : Gd w mg mb s.heap) (gt : (GT T0) s.heap) (rm : Rm A 330 250) (hr : StrsAt s.heap rA rows) (hlen : rows.length ≤ 3) (hsz : ∀ r ∈ rows, r.cps.size = 10)
    (hq : ∀ a h' tk, Kp s.heap h' → (GT T0) h' → s.heap.objs.size ≤ a → PlacesAt h' a (placesUp letters rows rows.length) → Q (.ref a) (Sh s h' tk)) :
    wpAny (model PG w) A (call (.ref 89) [.ref rA, .str letters t]) Q E s := by
  have : PySem.Challenge.rw_mr0153_01.Holds → (hd.heap_39 w.params).In s.heap → True := by (k_fill; intros; trivial)
  clear this
  refine rm.any ?_
  refine' enter (binds := [("rows", .ref rA), ("letters", .str letters t)]) (Bs.gh s.heap) G.nolimit (G.inH _ _ ?k1) (codeRec_of G.inH ?k2) ?k3 ?k4 ?k5 ?_ ?k6 ?k7 ?k8 ?k9
  case k1 => k_is
  case k2 => k_is
  case k3 => decide
  case k4 => exact BindsTo.of_eq rfl
  case k5 => exact locs rfl
  case k6 => decide
  case k7 => rfl
  case k8 => rfl
  case k9 => rfl
  intro L h₁ F hL kf
  have X := G.X
  obtain ⟨lo, mn, TP⟩ := G.T
  have N : News (gh s.heap) L h₁ [] := News.nil
  k_steps
  have gt1 : (GT T0) h₁ := mono_GT _ _ kf gt
  obtain ⟨rv, rn, er, hrl, hrv⟩ := hr
  have erg : (gh s.heap).get? rA = some ⟨.type "list", none, .seq rv.toArray rn, #[]⟩ := gh_get.mpr ⟨er, rfl⟩
  have h77 := gt.1.choose_spec.1
  have hPL : @LT.lt Nat _ 77 L := Nat.lt_of_lt_of_le (Heap.lt_size h77) hL
  have g77 : (gh s.heap).get? 77 = none := by
    cases q : (gh s.heap).get? 77 with
    | none => rfl
    | some o => have := gh_get.mp q; rw [h77] at this; obtain ⟨e, i⟩ := this; cases e; cases i
  have hoff : ∀ {h' m}, Fr (gh s.heap) L h' m → ∀ a ∈ [L], Off h' a := fun {h' m} F a ha => by
    rcases List.mem_cons.mp ha with rfl | ha
    · exact Off.ns F.ns
    · cases ha
  refine Stop.go (prog_spec (S := [L]) (G.kp (Fr.kp F)) gt1 (Rm.deeper (by decide) (by decide)) (hoff F) ?_)
  intro f Ps h2 tk2 k2 gt2 nPs tb2 PA2
  have F2 := Fr.kpb F k2 (Nat.ne_of_gt hPL) g77
  have N2 : News (gh s.heap) L h2 [] := News.nil
  generalize hJ : (fun H : Heap => (GT T0) H ∧ Tab RS H Ps ∧ ProgAt w mg mb H f letters Ps) = J
  have hm : Mono J := hJ ▸ mono_GT.and ((mono_tab Ps).and (mono_prog w mg mb f letters Ps))
  have j : J (hideAll h2 (L :: [])) := by rw [← hJ]; exact ⟨gt2.hide (hoff F2), tab_hide tb2 (hoff F2), PA2⟩
  clear F N k2 gt2 tb2 PA2 kf gt1
  -- one call of search_reverse, the list and the loop's iterator lying beside
  have srs : ∀ {pA it : Addr} {h' : Heap} {tk n : Nat} {m : Str → Option Value} {vs : List Value} {fs : Array Value} {ps : List (Str × Str)} {r : Str} {tr u : Tok} {col : Int} {A' : Around} {Q' E' : Value → Shared → Prop},
      Fr (gh s.heap) L h' m → News (gh s.heap) L h' [(pA, ⟨.type "list", none, .seq vs.toArray n, #[]⟩), (it, ⟨.type "range_iterator", none, .fields fs, #[]⟩)] →
      J (hideAll h' [L, pA, it]) → TupsOf (hideAll h' [L, pA, it]) vs ps → r.cps.size ≤ 1000 → Rm A' 340 300 →
      (∀ v h'' tk', Fr (gh s.heap) L h'' m → News (gh s.heap) L h'' [(pA, ⟨.type "list", none, .seq vs.toArray n, #[]⟩), (it, ⟨.type "range_iterator", none, .fields fs, #[]⟩)] →
        J (hideAll h'' [L, pA, it]) → TupsOf (hideAll h'' [L, pA, it]) vs ps → HitV w v (lastB col (runsOf letters r) none) (hideAll h'' [L, pA, it]) → Q' v (Sh s h'' tk')) →
      wpAny (model PG w) A' (call (.ref 68) [.ref f, .str r tr, .int col u]) Q' E' (Sh s h' tk) := by
    intro pA it h' tk n m vs fs ps r tr u col A' Q' E' F N j tp hrz rm' hq'
    rw [← hJ] at j
    obtain ⟨j1, j2, j3⟩ := j
    have offs : ∀ {h''}, Fr (gh s.heap) L h'' m → News (gh s.heap) L h'' [(pA, ⟨.type "list", none, .seq vs.toArray n, #[]⟩), (it, ⟨.type "range_iterator", none, .fields fs, #[]⟩)] → ∀ a ∈ [L, pA, it], Off h'' a := fun {h''} F N a ha => by
      rcases List.mem_cons.mp ha with rfl | ha
      · exact Off.ns F.ns
      rcases List.mem_cons.mp ha with rfl | ha
      · exact Off.list (N _ (.head _)).1
      rcases List.mem_cons.mp ha with rfl | ha
      · exact ⟨_, (N _ (.tail _ (.head _))).1, rfl, fun vs q => by simp at q⟩
      · cases ha
    have tb := tab_unhide j2
    obtain ⟨p0, e0, y0⟩ := id tb
    refine sr_spec (S := [L, pA, it]) (G.kp (Fr.kp F)) tb rm' (offs F N) j3 hrz ?_
    intro v h'' tk' k tb' hv
    have kp := k.kp e0
    have hLP : L ≠ Ps := by
      rintro rfl
      obtain ⟨o, es, ep, e, d, _⟩ := F.ns
      rw [e0] at e; cases e; cases d
    have gP0 : (gh s.heap).get? Ps = none := by
      cases q : (gh s.heap).get? Ps with
      | none => rfl
      | some o =>
        have q2 := F.keep _ _ q
        rw [e0] at q2; cases q2
        have := (gh_get.mp q).2
        cases this
    have F' := Fr.kpb F k hLP gP0
    have N' : News (gh s.heap) L h'' [(pA, ⟨.type "list", none, .seq vs.toArray n, #[]⟩), (it, ⟨.type "range_iterator", none, .fields fs, #[]⟩)] := by
      intro p hp
      rcases List.mem_cons.mp hp with rfl | hp
      · have n := N _ (.head _); exact ⟨kp _ _ n.1 rfl, n.2⟩
      rcases List.mem_cons.mp hp with rfl | hp
      · have n := N _ (.tail _ (.head _)); exact ⟨kp _ _ n.1 rfl, n.2⟩
      · cases hp
    have kH : Kp (hideAll h' [L, pA, it]) (hideAll h'' [L, pA, it]) := kp_of_hide fun b o _ e i => kp b o e i
    refine hq' v h'' tk' F' N' ?_ (TupsOf.kp kH tp) hv
    rw [← hJ]
    exact ⟨(GT.kpb j1.unhide k nPs tb tb').hide (offs F' N'), tab_hide tb' (offs F' N'), j3.kp kH⟩
  dsimp only [Sh]
  k_steps
  rename Fr _ _ _ _ => F3
  rename News _ _ _ _ => N3
  rename J (hideAll _ _) => j3
  rename_i pA _ hLp _ _ _
  refine Stop.go (wpAny_For ?_)
  k_steps
  refine Stop.go (range1_rows F3 N3 ?_)
  intro h4 tk4 t4 u4 v4 hr4 F4 N4 k4
  have j4 := hm _ _ (Kf.hide (S := [L, pA]) fun b o _ e => k4 b o e) j3
  clear F3 N3 j3 j
  simp only [lookup_lkO, List.reverse_cons, List.reverse_nil, List.nil_append, List.cons_append, List.map_cons, List.map_nil, set_lkO] at F4
  have hcs : rv.length = 0 ∨ rv.length = 1 ∨ rv.length = 2 ∨ rv.length = 3 := by omega
  have hpl : Builtin.Range.rangeSize 0 (rv.length : Nat) 1 = rv.length := by
    rcases hcs with h | h | h | h <;> rw [h] <;> decide +kernel
  refine letter3 (fun (it : Addr) (k : Nat) (s' : Shared) (QQ : Prop) => ∀ (ok oline ohit ofi obe : Option Value) (vs : List Value) (n : Nat) (h' : Heap) (tk : Nat), s' = Sh s h' tk → @LT.lt Nat _ pA it → (Fr (gh s.heap) L h' fun y => lkO [("k", ok), ("line", oline), ("hit", ohit), ("first", ofi), ("behind", obe), ("places", some (.ref pA)), ("prog", some (.ref f)), ("letters", some (.str letters t)), ("rows", some (.ref rA))] y) → News (gh s.heap) L h' [(pA, ⟨.type "list", none, .seq vs.toArray n, #[]⟩), (it, ⟨.type "range_iterator", none, .fields #[rawInt (0 + k), rawInt ((rv.length : Int) - k), rawInt 1], #[]⟩)] → J (hideAll h' [L, pA, it]) → TupsOf (hideAll h' [L, pA, it]) vs (placesUp letters rows k) → QQ) ?_
  intro I1 mkI1 unI1
  refine letter1 (fun (s' : Shared) (QQ : Prop) => ∀ (ok oline ohit ofi obe : Option Value) (vs : List Value) (n : Nat) (h' : Heap) (tk : Nat), s' = Sh s h' tk → (Fr (gh s.heap) L h' fun y => lkO [("k", ok), ("line", oline), ("hit", ohit), ("first", ofi), ("behind", obe), ("places", some (.ref pA)), ("prog", some (.ref f)), ("letters", some (.str letters t)), ("rows", some (.ref rA))] y) → h'.get? pA = some ⟨.type "list", none, .seq vs.toArray n, #[]⟩ → (GT T0) h' → TupsOf h' vs (placesUp letters rows rows.length) → QQ) ?_
  intro R1 mkR1 unR1
  refine for_range rfl hr4 ?_ hpl
    I1
    R1 ?_ ?_ ?_ ?_ ?_
  · rcases hcs with h | h | h | h <;> rw [h] <;> decide +kernel
  · rintro it h' rfl k' hri
    have hpi : @LT.lt Nat _ pA h4.objs.size := Heap.lt_size (N4 _ (.head _)).1
    refine mkI1 _ _ _ fun QQ qq => qq none none none none none [] 0 h' _ rfl hpi (Fr.mapA namesS5 (keepsF F4 k') rfl rfl (by repeat' (first | exact True.intro | refine And.intro rfl ?_))) ?_ ?_ ?_
    · intro p hp
      rcases List.mem_cons.mp hp with rfl | hp
      · have n := N4 _ (.head _); exact ⟨k' _ _ n.1, n.2⟩
      rcases List.mem_cons.mp hp with rfl | hp
      · exact ⟨by simpa using hri, neN (Nat.ne_of_gt (Nat.lt_trans hLp hpi)), Fr.fresh F4 (Nat.lt_trans hLp hpi)⟩
      · cases hp
    · refine hm _ _ (fun b o e => ?_) j4
      have hb : b ∉ [L, pA] := fun hm => by rw [hideAll_none _ hm] at e; cases e
      have e' := of_hideAll _ e
      refine hideAll_get _ (k' _ _ e') fun hm => ?_
      rcases List.mem_cons.mp hm with rfl | hm
      · exact hb (.head _)
      rcases List.mem_cons.mp hm with rfl | hm
      · exact hb (.tail _ (.head _))
      rcases List.mem_cons.mp hm with rfl | hm
      · exact absurd (Heap.lt_size e') (Nat.lt_irrefl _)
      · cases hm
    · exact trivial
  · intro it k s' hy
    refine unI1 _ _ _ _ hy ?_
    clear hy
    rintro ok oline ohit ofi obe vs n h' tk rfl hpi F N j tp
    exact (N _ (.tail _ (.head _))).1
  · intro it k s' h5 hk hy hri hsb
    refine unI1 _ _ _ _ hy ?_
    clear hy
    rintro ok oline ohit ofi obe vs n h' tk rfl hpi F N j tp
    have F5 : Fr (gh s.heap) L h5 _ := F.change hsb (N _ (.tail _ (.head _))).2.1 (N _ (.tail _ (.head _))).2.2
    have N5 : News (gh s.heap) L h5 [(pA, ⟨.type "list", none, .seq vs.toArray n, #[]⟩), (it, ⟨.type "range_iterator", none, .fields #[rawInt (0 + (k + 1 : Nat)), rawInt ((rv.length : Int) - (k + 1 : Nat)), rawInt 1], #[]⟩)] := by
      intro p hp
      rcases List.mem_cons.mp hp with rfl | hp
      · have n := N _ (.head _); exact ⟨(hsb.2 _ (Nat.ne_of_lt hpi)).trans n.1, n.2⟩
      rcases List.mem_cons.mp hp with rfl | hp
      · exact ⟨hri, (N _ (.tail _ (.head _))).2⟩
      · cases hp
    generalize hJ2 : (fun H : Heap => J H ∧ TupsOf H vs (placesUp letters rows k)) = J2
    have hm2 : Mono J2 := hJ2 ▸ hm.and (mono_tups _ _)
    have j5 : J2 (hideAll h5 [L, pA, it]) := hm2 _ _ (Kf.hide fun b o hb e => (hsb.2 b fun q => hb (q ▸ .tail _ (.tail _ (.head _)))).trans e) (by rw [← hJ2]; exact ⟨j, tp⟩)
    obtain ⟨r, hrk⟩ : ∃ r, rows[k]? = some r := ⟨_, List.getElem?_eq_getElem (by omega)⟩
    obtain ⟨tr, hrt⟩ := hrv k r hrk
    have hr10 := hsz r (List.mem_of_getElem? hrk)
    have hr1000 : r.cps.size ≤ 1000 := by omega
    have hkl : (tx ((k : Int) + 1)).cps.size ≤ 2 := tx_len (n := k + 1) (by omega)
    have hdot : (Str.ofString ".").cps.size = 1 := by decide +kernel
    have hl0 : (tx ((k : Int) + 1)).cps.size + (Str.ofString ".").cps.size ≤ 1000 := by omega
    have hline : (tx ((k : Int) + 1) ++ Str.ofString ".").cps.size ≤ 3 := by rw [Str.cps_append, Array.size_append]; omega
    clear F N j tp
    rw [show (0 + (k : Int)) = k from Int.zero_add _]
    k_steps
    rename Fr _ _ _ _ => F6
    rename News _ _ _ _ => N6
    rename J2 (hideAll _ _) => j6
    rw [← hJ2] at j6
    refine Stop.go (srs F6 N6 j6.1 j6.2 hr1000 (Rm.deeper (by decide) (by decide)) ?_)
    clear F6 N6 j6 hm2 hJ2 j5
    intro v h7 tk7 F7 N7 j7 tp7 hv7
    generalize hJ3 : (fun H : Heap => J H ∧ TupsOf H vs (placesUp letters rows k) ∧ HitV w v (lastB (r.cps.size : Nat) (runsOf letters r) none) H) = J3
    have hm3 : Mono J3 := hJ3 ▸ hm.and ((mono_tups _ _).and (mono_hitV _ _ _))
    have j7' : J3 (hideAll h7 [L, pA, it]) := by rw [← hJ3]; exact ⟨j7, tp7, hv7⟩
    clear j7 tp7 hv7
    dsimp only [Sh]
    k_steps
    rename Fr _ _ _ _ => F8
    rename News _ _ _ _ => N8
    rename J3 (hideAll _ _) => j8
    rw [← hJ3] at j8
    obtain ⟨j8a, j8b, j8c⟩ := j8
    simp only [set_lkO] at F8
    have hord := runsK_ord (cs := r.cps.toList) (ls := letters.cps.toList) (r.cps.size + 1) 0 (Nat.zero_le _)
    rw [show runsK r.cps.toList letters.cps.toList (r.cps.size + 1) 0 = runsOf letters r from rfl, Array.length_toList] at hord
    rw [lastB_all hord.1 hord.2] at j8c
    refine letter2 (fun (c : Nat) (s' : Shared) (QQ : Prop) => ∀ (pre post : List (Nat × Nat)) (v : Value) (ofi obe : Option Value) (uk ul : Tok) (vs : List Value) (n : Nat) (h' : Heap) (tk : Nat), s' = Sh s h' tk → runsOf letters r = pre ++ post → c = pre.length → (Fr (gh s.heap) L h' fun y => lkO [("k", some (.int k uk)), ("line", some (.str (tx (k + 1) ++ Str.ofString ".") ul)), ("hit", some v), ("first", ofi), ("behind", obe), ("places", some (.ref pA)), ("prog", some (.ref f)), ("letters", some (.str letters t)), ("rows", some (.ref rA))] y) → News (gh s.heap) L h' [(pA, ⟨.type "list", none, .seq vs.toArray n, #[]⟩), (it, ⟨.type "range_iterator", none, .fields #[rawInt (0 + (k + 1 : Nat)), rawInt ((rv.length : Int) - (k + 1 : Nat)), rawInt 1], #[]⟩)] → J (hideAll h' [L, pA, it]) → TupsOf (hideAll h' [L, pA, it]) vs (placesUp letters rows k ++ post.reverse.map (place k)) → HitV w v pre.getLast? (hideAll h' [L, pA, it]) → QQ) ?_
    intro I2 mkI2 unI2
    refine letter1 (fun (s' : Shared) (QQ : Prop) => ∀ (ok oline ohit ofi obe : Option Value) (vs : List Value) (n : Nat) (h' : Heap) (tk : Nat), s' = Sh s h' tk → (Fr (gh s.heap) L h' fun y => lkO [("k", ok), ("line", oline), ("hit", ohit), ("first", ofi), ("behind", obe), ("places", some (.ref pA)), ("prog", some (.ref f)), ("letters", some (.str letters t)), ("rows", some (.ref rA))] y) → News (gh s.heap) L h' [(pA, ⟨.type "list", none, .seq vs.toArray n, #[]⟩), (it, ⟨.type "range_iterator", none, .fields #[rawInt (0 + (k + 1 : Nat)), rawInt ((rv.length : Int) - (k + 1 : Nat)), rawInt 1], #[]⟩)] → J (hideAll h' [L, pA, it]) → TupsOf (hideAll h' [L, pA, it]) vs (placesUp letters rows (k + 1)) → QQ) ?_
    intro R2 mkR2 unR2
    refine Stop.go (while_rule I2
      R2 (runsOf letters r).length ?_ ?_ ?_)
    · refine mkI2 _ _ fun QQ qq => qq (runsOf letters r) [] v ofi obe _ _ vs n _ _ rfl ((List.append_nil _).symm) rfl (Fr.mapA namesS5 F8 rfl rfl (by repeat' (first | exact True.intro | refine And.intro rfl ?_))) N8 j8a (by simpa using j8b) j8c
    · clear F8 N8 j8a j8b j8c hJ3 hm3 j7'
      intro c s' hy
      refine unI2 _ _ _ hy ?_
      clear hy
      rintro pre post v ofi obe uk ul vs n h' tk rfl hrun rfl F N j tp hv
      rcases List.eq_nil_or_concat pre with rfl | ⟨pre, ⟨a, b⟩, rfl⟩
      · -- no hit is left
        cases hv
        dsimp only [Sh]
        k_steps
        refine mkR2 _ fun QQ qq => qq _ _ _ _ _ vs n _ _ rfl F N j ?_
        rw [placesUp_succ hrk, rowPlaces, hrun]
        exact tp
      · rw [List.concat_eq_append, List.getLast?_concat] at hv
        obtain ⟨fm, rfl, HA⟩ := hv
        rw [List.concat_eq_append] at hrun ⊢
        have hord' := hord.1
        rw [hrun, List.append_assoc, List.singleton_append] at hord'
        have hab := (ordd_split hord').2
        have hb10 := hord.2 (a, b) (by rw [hrun]; simp)
        have hta := tx_len (n := a) (by dsimp only at hb10; omega)
        have htb := tx_len (n := b) (by dsimp only at hb10; omega)
        have hla : (tx ((k : Int) + 1) ++ Str.ofString ".").cps.size + (tx a).cps.size ≤ 1000 := by omega
        have hlb : (tx ((k : Int) + 1) ++ Str.ofString ".").cps.size + (tx b).cps.size ≤ 1000 := by omega
        generalize hJ4 : (fun H : Heap => J H ∧ TupsOf H vs (placesUp letters rows k ++ post.reverse.map (place k)) ∧ HitAt w H fm a b) = J4
        have hm4 : Mono J4 := hJ4 ▸ hm.and ((mono_tups _ _).and (mono_hit _ _ _ _))
        have j4 : J4 (hideAll h' [L, pA, it]) := by rw [← hJ4]; exact ⟨j, tp, HA⟩
        clear j tp
        dsimp only [Sh]
        k_steps
        refine Stop.go (span_call HA (G.kp (Fr.kp F)).nolimit (Rm.deeper (by decide) (by decide)) ?_)
        intro tA h9 tk9 t1 t2 k9 z9 e9
        have F9 := keepsF F k9
        have hit : @LT.lt Nat _ it tA := Nat.lt_of_lt_of_le (Heap.lt_size (N _ (.tail _ (.head _))).1) z9
        have N9 : News (gh s.heap) L h9 ((tA, ⟨.type "tuple", none, .seq #[.int a t1, .int b t2] 0, #[]⟩) :: [(pA, ⟨.type "list", none, .seq vs.toArray n, #[]⟩), (it, ⟨.type "range_iterator", none, .fields #[rawInt (0 + (k + 1 : Nat)), rawInt ((rv.length : Int) - (k + 1 : Nat)), rawInt 1], #[]⟩)]) :=
          News.cons (fun p hp => ⟨k9 _ _ (N p hp).1, (N p hp).2⟩) e9 (Fr.fresh F (ltN (by omega))) (neN (by omega))
        have j9 : J4 (hideAll h9 [L, pA, it]) := hm4 _ _ (Kf.hide fun b o _ e => k9 b o e) j4
        clear F N j4 HA
        dsimp only [Sh]
        k_steps
        rename Fr _ _ _ _ => F10
        rename News _ _ _ _ => N10
        rename J4 (hideAll _ _) => j10
        refine Stop.go (Calls.getMethod_list_append (N10 _ (.tail _ (.head _))).1 rfl rfl ?_)
        dsimp only
        refine callWith_method1 ?_
        k_steps
        rename Fr _ _ _ _ => F11
        rename News _ _ _ _ => N11
        rename J4 (hideAll _ _) => j11
        rename_i tT _ _ hTn
        have jj := j11
        rw [← hJ4] at jj
        have hvl := TupsOf.length jj.2.1
        have hpl1 := placesUp_len (letters := letters) hsz k
        have hpo : post.length ≤ 11 := by
          have h1 : (runsOf letters r).length ≤ r.cps.size + 1 := runsK_len _ _
          rw [hrun] at h1
          simp only [List.length_append] at h1
          omega
        simp only [List.length_append, List.length_map, List.length_reverse] at hvl
        refine Stop.go (append_at (N11 _ (.tail _ (.tail _ (.head _)))).1 ?_ ?_)
        · intro h12 s12 e12
          have hTA := hTn _ (.head _)
          have hT2 : @LT.lt Nat _ tA tT := hTA
          have nTp : @Ne Nat tT pA := by omega
          have nTL : @Ne Nat tT L := by omega
          have nTi : @Ne Nat tT it := by omega
          have nip : @Ne Nat it pA := by omega
          have F12 := F11.change s12 (N11 _ (.tail _ (.tail _ (.head _)))).2.1 (N11 _ (.tail _ (.tail _ (.head _)))).2.2
          rw [List.push_toArray] at e12
          have N12 : News (gh s.heap) L h12 [(pA, ⟨.type "list", none, .seq (vs ++ [Value.ref tT]).toArray (n + 1), #[]⟩), (it, ⟨.type "range_iterator", none, .fields #[rawInt (0 + (k + 1 : Nat)), rawInt ((rv.length : Int) - (k + 1 : Nat)), rawInt 1], #[]⟩)] := by
            intro p hp
            rcases List.mem_cons.mp hp with rfl | hp
            · exact ⟨e12, (N11 _ (.tail _ (.tail _ (.head _)))).2⟩
            rcases List.mem_cons.mp hp with rfl | hp
            · have n := N11 _ (.tail _ (.tail _ (.tail _ (.head _)))); exact ⟨(s12.2 _ nip).trans n.1, n.2⟩
            · cases hp
          have kH := Kf.hide (S := [L, pA, it]) (h' := h12) fun b o hb e => (s12.2 b fun q => hb (q ▸ .tail _ (.head _))).trans e
          have eT := (s12.2 _ nTp).trans (N11 _ (.head _)).1
          have gT : (hideAll h12 [L, pA, it]).get? tT = some _ := hideAll_get _ eT (by simp [nTp, nTL, nTi])
          have tp12 : TupsOf (hideAll h12 [L, pA, it]) (vs ++ [Value.ref tT]) (placesUp letters rows k ++ post.reverse.map (place k) ++ [place k (a, b)]) := TupsOf.snoc (TupsOf.kp kH.kp jj.2.1) ⟨tT, _, _, rfl, gT⟩
          have j12 := hm _ _ kH jj.1
          generalize hJ5 : (fun H : Heap => J H ∧ TupsOf H (vs ++ [Value.ref tT]) (placesUp letters rows k ++ post.reverse.map (place k) ++ [place k (a, b)])) = J5
          have hm5 : Mono J5 := hJ5 ▸ hm.and (mono_tups _ _)
          have j5 : J5 (hideAll h12 [L, pA, it]) := by rw [← hJ5]; exact ⟨j12, tp12⟩
          clear F11 N11 j11 jj j10 j9 hm4 hJ4 kH eT gT tp12 j12
          k_steps
          rw [← hJ5] at j5
          refine Stop.go (srs F12 N12 j5.1 j5.2 hr1000 (Rm.deeper (by decide) (by decide)) ?_)
          clear F12 N12 j5 hm5 hJ5
          intro v h13 tk13 F13 N13 j13 tp13 hv13
          have hcol : lastB (Int.fdiv ((a : Int) + (b : Int)) 2) (runsOf letters r) none = pre.getLast? := by
            rw [hrun, List.append_assoc, List.singleton_append]
            refine lastB_mid hord' ?_ ?_
            · rw [Int.fdiv_eq_ediv_of_nonneg _ (by decide)]; omega
            · rw [Int.fdiv_eq_ediv_of_nonneg _ (by decide)]; omega
          rw [hcol] at hv13
          generalize hJ6 : (fun H : Heap => J H ∧ TupsOf H (vs ++ [Value.ref tT]) (placesUp letters rows k ++ post.reverse.map (place k) ++ [place k (a, b)]) ∧ HitV w v pre.getLast? H) = J6
          have hm6 : Mono J6 := hJ6 ▸ hm.and ((mono_tups _ _).and (mono_hitV _ _ _))
          have j6 : J6 (hideAll h13 [L, pA, it]) := by rw [← hJ6]; exact ⟨j13, tp13, hv13⟩
          clear j13 tp13 hv13
          dsimp only [Sh]
          k_steps
          rename Fr _ _ _ _ => F14
          rename News _ _ _ _ => N14
          rename J6 (hideAll _ _) => j14
          rw [← hJ6] at j14
          simp only [set_lkO] at F14
          refine ⟨pre.length, by simp, ?_⟩
          refine mkI2 _ _ fun QQ qq => qq pre ((a, b) :: post) v (some (.int a t1)) (some (.int b t2)) uk ul (vs ++ [Value.ref tT]) (n + 1) _ _ rfl ?_ rfl (Fr.mapA namesS5 F14 rfl rfl (by repeat' (first | exact True.intro | refine And.intro rfl ?_))) N14 j14.1 ?_ j14.2.2
          · rw [hrun, List.append_assoc, List.singleton_append]
          · have := j14.2.1
            rw [List.append_assoc] at this
            simpa [List.reverse_cons, List.map_append] using this
        · rw [List.size_toArray, sizeLine_eq]; omega
    · intro s' hy
      refine unR2 _ _ hy ?_
      clear hy
      rintro ok oline ohit ofi obe vs n h' tk rfl F N j tp
      refine wpAny_execs_nil ?_
      show Stop _
      exact mkI1 _ _ _ fun QQ qq => qq ok oline ohit ofi obe vs n h' tk rfl hpi F N j tp
  · intro it s' h1 hy he
    refine unI1 _ _ _ _ hy ?_
    clear hy
    rintro ok oline ohit ofi obe vs n h' tk rfl hpi F N j tp
    have hni := (N _ (.tail _ (.head _))).2
    have F' := extButF F he hni.1 hni.2
    have ep : h1.get? pA = some ⟨.type "list", none, .seq vs.toArray n, #[]⟩ := he _ _ (Nat.ne_of_lt hpi) (N _ (.head _)).1
    have kH : Kf (hideAll h' [L, pA, it]) (hideAll h1 [L, pA, it]) := Kf.hide fun b o hb e => he b o (fun q => hb (q ▸ .tail _ (.tail _ (.head _)))) e
    have jj := hm _ _ kH j
    rw [← hJ] at jj
    rw [hrl] at tp
    exact mkR1 _ fun QQ qq => qq ok oline ohit ofi obe vs n h1 tk rfl F' ep jj.1.unhide (TupsOf.kp (kH.kp.trans hide_kp) tp)
  · intro s' hy
    refine unR1 _ _ hy ?_
    clear hy
    rintro ok oline ohit ofi obe vs n h' tk rfl F ep gt' tp
    have N : News (gh s.heap) L h' [] := News.nil
    dsimp only [Sh]
    k_steps
    exact hq _ _ _ (Fr.kp F) gt' (Nat.le_trans hL (Nat.le_of_lt hLp)) ⟨vs, n, ep, tp⟩
end Mine

-- S6a
namespace Mine
open PySem PySem.W PyProof.Rows PySem.Spec PySem.Calls
theorem slot_map_iter : Slot "map" "__iter__" "map.__iter__" :=
  .of (owner := "map") (n := "__iter__") (by rw [typeLookup_type, builtinLookup_eq_fast]; kernel_rfl) (by decide +kernel) (by decide +kernel) (by decide +kernel)
    (by first | exact .inl (by decide +kernel) | exact .inr (by decide +kernel)) (by rw [isSubtype_type]; kernel_rfl)
theorem slot_map_next : Slot "map" "__next__" "map.__next__" :=
  .of (owner := "map") (n := "__next__") (by rw [typeLookup_type, builtinLookup_eq_fast]; kernel_rfl) (by decide +kernel) (by decide +kernel) (by decide +kernel)
    (by first | exact .inl (by decide +kernel) | exact .inr (by decide +kernel)) (by rw [isSubtype_type]; kernel_rfl)
theorem entry_map_next : entryFor table "map.__next__" = some Builtin.«map.__next__» := entryFor_of_fast (by kernel_rfl)
theorem args_map_next (a : Value) : argsOk "map.__next__" ⟨[a], []⟩ := by unfold argsOk; kernel_rfl
theorem entry_map_iter : entryFor table "map.__iter__" = some Builtin.«dict_keyiterator.__iter__» :=
  entryFor_alias (id' := "dict_keyiterator.__iter__") (by kernel_rfl) rfl (by decide +kernel) (by kernel_rfl)
theorem args_map_iter (a : Value) : argsOk "map.__iter__" ⟨[a], []⟩ := by unfold argsOk; kernel_rfl

section
variable {prog : Program} {w : World} {A : Around} {E : Value → Shared → Prop} {s : Shared}
theorem map_iter {m : Addr} {o : Obj} {Q : Value → Shared → Prop} (ho : s.heap.get? m = some o) (hc : o.cls = .type "map") (hQ : Q (.ref m) s) :
    wpAny (model prog w) A (pyIter (.ref m)) Q E s := by
  have ht : s.TypeIs (.ref m) "map" := ⟨_, ho, hc⟩
  refine wpAny_pyIter_slot ht slot_map_iter (wpAny_call_entry slot_map_iter ht entry_map_iter ?_ (args_map_iter _))
  exact wpAny_pure ⟨_, rfl, "map", _, ht, slot_map_next.lookup, hQ⟩
noncomputable def IsMap (h : Heap) (m tp it : Addr) : Prop := (∃ o, h.get? m = some o ∧ o.cls = .type "map" ∧ o.data = .fields #[.ref tp, .type "int"]) ∧ ∃ o n, h.get? tp = some o ∧ o.data = .seq #[.ref it] n
theorem map_next {m tp it l : Addr} {i : Nat} {items} {x : Value} {Q : Option Value → Shared → Prop} (hm : IsMap s.heap m tp it) (hit : s.heap.IsListIter it l i)
    (hl : s.heap.IsList l items) (hx : items[i]? = some x) (h1 : m ≠ it)
    (hQ : ∀ h', h'.IsListIter it l (i + 1) → Heap.SameBut it s.heap h' → wpAny (model prog w) A.in1 (call (.type "int") [x]) (fun v s' => Q (some v) s') (fun _ _ => False) { s with heap := h' }) :
    wpAny (model prog w) A (pyNext (.ref m)) Q E s := by
  obtain ⟨⟨o, ho, hc, hd⟩, o2, n2, ho2, hd2⟩ := hm
  have ht : s.TypeIs (.ref m) "map" := ⟨_, ho, hc⟩
  unfold pyNext
  refine wpAny_bind (wpAny_attempt (wpAny_callSpecial?_slot (name := Str.ofString "__next__") ht slot_map_next
    (wpAny_call_entry slot_map_next ht entry_map_next ?_ (args_map_next _))))
  show wpAny _ _ (field (.ref m) 0 >>= _) _ _ s
  refine wpAny_bind (wpAny_field ho hd (x := .ref tp) rfl ?_)
  refine wpAny_bind (wpAny_seqItems ho2 hd2 ?_)
  simp only [← Array.forIn_toList, List.forIn_cons, List.forIn_nil]
  refine wpAny_bind (wpAny_bind (wpAny_bind (wpAny_holding (wpAny_nextOf_list_item hit hl hx fun h' hi' hs' => wpAny_pure ?_))))
  have ho' := hs'.extBut _ _ h1 ho
  refine wpAny_pure (wpAny_bind (wpAny_field ho' hd (x := .type "int") rfl (wpAny_bind (wpAny_holding ?_))))
  refine wpAny_mono (hQ _ hi' hs') (fun v s' q => wpAny_bind (wpAny_letGo (wpAny_pure ⟨_, rfl, wpAny_pure q⟩))) fun _ _ f => f.elim
theorem map_end {m tp it l : Addr} {i : Nat} {items} {Q : Option Value → Shared → Prop} (hh : A.handled = none) (hm : IsMap s.heap m tp it) (hit : s.heap.IsListIter it l i)
    (hl : s.heap.IsList l items) (hx : items[i]? = none)
    (hQ : ∀ h', Heap.ExtBut it s.heap h' → Q none { s with heap := h' }) :
    wpAny (model prog w) A (pyNext (.ref m)) Q E s := by
  obtain ⟨⟨o, ho, hc, hd⟩, o2, n2, ho2, hd2⟩ := hm
  have ht : s.TypeIs (.ref m) "map" := ⟨_, ho, hc⟩
  unfold pyNext
  refine wpAny_bind (wpAny_attempt (wpAny_callSpecial?_slot (name := Str.ofString "__next__") ht slot_map_next
    (wpAny_call_entry slot_map_next ht entry_map_next ?_ (args_map_next _))))
  show wpAny _ _ (field (.ref m) 0 >>= _) _ _ s
  refine wpAny_bind (wpAny_field ho hd (x := .ref tp) rfl ?_)
  refine wpAny_bind (wpAny_seqItems ho2 hd2 ?_)
  simp only [← Array.forIn_toList, List.forIn_cons, List.forIn_nil]
  refine wpAny_bind (wpAny_bind (wpAny_bind (wpAny_holding (wpAny_nextOf_list_end (by exact hh) hit hl hx fun h' e he ht' => ?_))))
  refine wpAny_bind (wpAny_isInstance (T := "StopIteration") (b := true) ht' isSubtype_stop ?_)
  exact wpAny_pure (hQ _ he)
end
section
local macro_rules | `(tactic| x_close) => `(tactic| apply_assumption)
theorem int_lit {w : World} {Q E : Value → Shared → Prop} {h : Heap} {g : Array GenState} {d : Drawn} {t : Nat} {os : OsState} {u : Tok} (X : (hd.heap_39 w.params).In h)
    (n : Nat) (hn : n ≤ 10) (hq : ∀ t1 t2, Q (.int n t1) ⟨h, g, d, t2, os⟩) : wpAny (model PG w) (AA 350 350) (call (.type "int") [.str (tx n) u]) Q E ⟨h, g, d, t, os⟩ := by
  have : PySem.Challenge.rw_mr0153_01.Holds → (hd.heap_39 w.params).In h → True := by (k_fill; intros; trivial)
  clear this
  have e : tx n = ([⟨#[48]⟩, ⟨#[49]⟩, ⟨#[50]⟩, ⟨#[51]⟩, ⟨#[52]⟩, ⟨#[53]⟩, ⟨#[54]⟩, ⟨#[55]⟩, ⟨#[56]⟩, ⟨#[57]⟩, ⟨#[49, 48]⟩] : List Str).getD n ⟨#[]⟩ := by
    clear hq; revert n; decide +kernel
  rw [e]; clear e
  have h11 : ∀ m : Fin 11, m.val = 10 ∨ m.val = 9 ∨ m.val = 8 ∨ m.val = 7 ∨ m.val = 6 ∨ m.val = 5 ∨ m.val = 4 ∨ m.val = 3 ∨ m.val = 2 ∨ m.val = 1 ∨ m.val = 0 := by decide +kernel
  rcases h11 ⟨n, Nat.lt_succ_of_le hn⟩ with e | e | e | e | e | e | e | e | e | e | e <;> (change n = _ at e; subst e; clear h11 hn)
  · show wpAny (model PG w) (AA 350 350) (call (.type "int") [.str ⟨#[49, 48]⟩ u]) Q E ⟨h, g, d, t, os⟩
    x_run
  · show wpAny (model PG w) (AA 350 350) (call (.type "int") [.str ⟨#[57]⟩ u]) Q E ⟨h, g, d, t, os⟩
    x_run
  · show wpAny (model PG w) (AA 350 350) (call (.type "int") [.str ⟨#[56]⟩ u]) Q E ⟨h, g, d, t, os⟩
    x_run
  · show wpAny (model PG w) (AA 350 350) (call (.type "int") [.str ⟨#[55]⟩ u]) Q E ⟨h, g, d, t, os⟩
    x_run
  · show wpAny (model PG w) (AA 350 350) (call (.type "int") [.str ⟨#[54]⟩ u]) Q E ⟨h, g, d, t, os⟩
    x_run
  · show wpAny (model PG w) (AA 350 350) (call (.type "int") [.str ⟨#[53]⟩ u]) Q E ⟨h, g, d, t, os⟩
    x_run
  · show wpAny (model PG w) (AA 350 350) (call (.type "int") [.str ⟨#[52]⟩ u]) Q E ⟨h, g, d, t, os⟩
    x_run
  · show wpAny (model PG w) (AA 350 350) (call (.type "int") [.str ⟨#[51]⟩ u]) Q E ⟨h, g, d, t, os⟩
    x_run
  · show wpAny (model PG w) (AA 350 350) (call (.type "int") [.str ⟨#[50]⟩ u]) Q E ⟨h, g, d, t, os⟩
    x_run
  · show wpAny (model PG w) (AA 350 350) (call (.type "int") [.str ⟨#[49]⟩ u]) Q E ⟨h, g, d, t, os⟩
    x_run
  · show wpAny (model PG w) (AA 350 350) (call (.type "int") [.str ⟨#[48]⟩ u]) Q E ⟨h, g, d, t, os⟩
    x_run
end
end Mine

-- S6b
namespace Mine
open PySem PySem.W PyProof.Rows PySem.Spec PySem.Calls
section
theorem mem_map {h h' : Heap} {D m tp it : Addr}
    (M : W.X.Mem h h' [] [(m, { cls := .type "map", data := .fields #[.ref tp, .type "int"] }), (tp, { cls := .type "tuple", data := .seq #[.ref it] }),
      (it, { cls := .type "list_iterator", data := .fields #[.ref D, .int 0 0] })]) :
    Kf h h' ∧ h.get? it = none ∧ m ≠ it ∧ tp ≠ it ∧ IsMap h' m tp it ∧ h'.IsListIter it D 0 :=
  ⟨(fun b o e => M.keep b o e (by simp [W.X.away])), (M.nw _ (.tail _ (.tail _ (.head _)))).2,
    (M.ne 0 2 _ _ _ _ rfl rfl rfl), (M.ne 1 2 _ _ _ _ rfl rfl rfl), ⟨⟨_, M.at 0 _ _ rfl, rfl, rfl⟩, _, _, M.at 1 _ _ rfl, rfl⟩, ⟨_, M.at 2 _ _ rfl, rfl, rfl⟩⟩
local macro_rules | `(tactic| x_close) => `(tactic| (apply_assumption <;> assumption))
theorem map_call0 {w : World} {Q E : Value → Shared → Prop} {h : Heap} {g : Array GenState} {d : Drawn} {t : Nat} {os : OsState} {D : Addr} {n : Nat} {xs : Array Value} (X : (hd.heap_39 w.params).In h)
    {dct wk} (hD : h.get? D = some ⟨.type "list", dct, .seq xs n, wk⟩)
    (hq : ∀ h' m tp it t2, W.X.Mem h h' [] [(m, { cls := .type "map", data := .fields #[.ref tp, .type "int"] }), (tp, { cls := .type "tuple", data := .seq #[.ref it] }),
      (it, { cls := .type "list_iterator", data := .fields #[.ref D, .int 0 0] })] → Q (.ref m) ⟨h', g, d, t2, os⟩) :
    wpAny (model PG w) (AA 350 350) (call (.type "map") [.type "int", .ref D]) Q E ⟨h, g, d, t, os⟩ := by
  have : PySem.Challenge.rw_mr0153_01.Holds → (hd.heap_39 w.params).In h → True := by (k_fill; intros; trivial)
  clear this
  x_run
theorem map_call {w : World} {Q E : Value → Shared → Prop} {h : Heap} {g : Array GenState} {d : Drawn} {t : Nat} {os : OsState} {D : Addr} {n : Nat} {xs : Array Value} (X : (hd.heap_39 w.params).In h)
    {dct wk} (hD : h.get? D = some ⟨.type "list", dct, .seq xs n, wk⟩)
    (hq : ∀ h' m tp it t2, Kf h h' → h.get? it = none → m ≠ it → tp ≠ it → IsMap h' m tp it → h'.IsListIter it D 0 → Q (.ref m) ⟨h', g, d, t2, os⟩) :
    wpAny (model PG w) (AA 350 350) (call (.type "map") [.type "int", .ref D]) Q E ⟨h, g, d, t, os⟩ := by
  refine map_call0 X hD fun h' m tp it t2 M => ?_
  obtain ⟨x1, x2, x3, x4, x5, x6⟩ := mem_map M
  exact hq _ _ _ _ _ x1 x2 x3 x4 x5 x6
end
theorem In.kp' {w : World} {h h' : Heap} {it : Addr} (X : (hd.heap_39 w.params).In h) (k : ∀ b o, h.get? b = some o → h'.get? b = some o) : (hd.heap_39 w.params).In h' := fun b o e => k _ _ (X b o e)
theorem map_unpack {w : World} {A : Around} {E : Value → Shared → Prop} {h h₁ : Heap} {g : Array GenState} {d : Drawn} {t : Nat} {os : OsState} {D m tp it : Addr} {l c : Nat} {u1 u2 : Tok} {Q : List Value → Shared → Prop}
    (X : (hd.heap_39 w.params).In h) (r : Rm A.in1 350 350) (hh : A.handled = none) (k : Kf h h₁) (hD : h.IsList D #[.str (tx l) u1, .str (tx c) u2]) (hi : h.get? it = none) (n1 : m ≠ it) (n2 : tp ≠ it)
    (hm : IsMap h₁ m tp it) (hit : h₁.IsListIter it D 0) (hl : l ≤ 10) (hc : c ≤ 10)
    (hQ : ∀ h' t' t1 t2, Kf h h' → Q [.int l t1, .int c t2] ⟨h', g, d, t', os⟩) :
    wpAny (model PG w) A (unpackItems (.ref m) 2 none) Q E ⟨h₁, g, d, t, os⟩ := by
  have kx : ∀ {h₂ : Heap}, Heap.ExtBut it h₁ h₂ → Kf h h₂ := fun x b o e => x b o (fun eq => by rw [eq, hi] at e; cases e) (k b o e)
  have lx : ∀ {h₂ : Heap}, Kf h h₂ → h₂.IsList D #[.str (tx l) u1, .str (tx c) u2] := fun x => let ⟨o, e, rr⟩ := hD; ⟨o, x _ _ e, rr⟩
  have mx : ∀ {h₂ : Heap}, Heap.ExtBut it h₁ h₂ → IsMap h₂ m tp it := fun x => let ⟨⟨o, e, rr⟩, o2, nn, e2, rr2⟩ := hm; ⟨⟨o, x _ _ n1 e, rr⟩, o2, nn, x _ _ n2 e2, rr2⟩
  unfold unpackItems
  obtain ⟨⟨o, ho, hc', _⟩, _⟩ := id hm
  refine wpAny_bind ?_
  unfold notIterableAtAll
  refine wpAny_bind (wpAny_specialOf (T := "map") ⟨_, ho, hc'⟩ slot_map_iter.lookup ?_)
  refine wpAny_pure ?_
  simp only [Bool.false_eq_true, if_false]
  refine wpAny_bind (wpAny_holding (map_iter ho hc' ?_))
  refine wpAny_bind (wpAny_holding ?_)
  show wpAny _ _ (pyNext (.ref m) >>= _) _ _ _
  refine wpAny_bind (map_next hm hit (lx k) (x := .str (tx l) u1) rfl n1 fun h₂ hit₂ hs₂ => ?_)
  refine r.any (int_lit (In.kp' (it := it) X (kx hs₂.extBut)) l hl fun a1 b1 => ?_)
  refine wpAny_bind (wpAny_holding ?_)
  show wpAny _ _ (pyNext (.ref m) >>= _) _ _ _
  refine wpAny_bind (map_next (mx hs₂.extBut) hit₂ (lx (kx hs₂.extBut)) (x := .str (tx c) u2) rfl n1 fun h₃ hit₃ hs₃ => ?_)
  have hs := hs₂.trans hs₃
  refine r.any (int_lit (In.kp' (it := it) X (kx hs.extBut)) c hc fun a2 b2 => ?_)
  refine wpAny_bind (wpAny_holding (wpAny_pure (wpAny_pure (wpAny_pure ?_))))
  rw [if_neg (by simp)]
  refine wpAny_bind (wpAny_holding (map_end hh (mx hs.extBut) hit₃ (lx (kx hs.extBut)) rfl fun h₄ he₄ => ?_))
  simp only [Option.isSome_none, Bool.false_eq_true, if_false]
  exact wpAny_pure (hQ _ _ _ _ fun b o e => he₄ b o (fun eq => by rw [eq, hi] at e; cases e) (kx hs.extBut b o e))
end Mine

-- S6
namespace Mine
open PySem PySem.W PyProof.Rows PySem.Spec PySem.Calls
local macro_rules | `(tactic| walk_at $s:str) => if s.getString == "assign Tuple" then `(tactic| (refine stop_intro ?_)) else Lean.Macro.throwUnsupported
theorem split_lc (l c : Nat) (hl : l < 10) (hc : c ≤ 10) : Txt.split (tx l ++ "." ++ tx c) "." = [tx l, tx c] ∧ (tx l ++ "." ++ tx c).length ≤ 5 ∧ (Builtin.Str.partsBetween (tx l ++ "." ++ tx c) (Builtin.Str.occurrences (tx l ++ "." ++ tx c) "." 0 (tx l ++ "." ++ tx c).length ((tx l ++ "." ++ tx c).length + 1)) (Str.length (Str.ofString "."))).length ≤ 5 := by
  have : ∀ l : Fin 10, ∀ c : Fin 11, Txt.split (tx l.1 ++ "." ++ tx c.1) "." = [tx l.1, tx c.1] ∧ (tx l.1 ++ "." ++ tx c.1).length ≤ 5 ∧ (Builtin.Str.partsBetween (tx l.1 ++ "." ++ tx c.1) (Builtin.Str.occurrences (tx l.1 ++ "." ++ tx c.1) "." 0 (tx l.1 ++ "." ++ tx c.1).length ((tx l.1 ++ "." ++ tx c.1).length + 1)) (Str.length (Str.ofString "."))).length ≤ 5 := by decide +kernel
  exact this ⟨l, hl⟩ ⟨c, by omega⟩
theorem glc_spec {w : World} {mg mb : Str → Option Value} {s : Shared} {A : Around} {Q E : Value → Shared → Prop} {t : Tok} {l c : Nat}
    (G : Gd w mg mb s.heap) (rm : Rm A 340 300) (hl : l < 10) (hc : c ≤ 10)
    (hq : ∀ tA h' tk t1 t2, Kf s.heap h' → s.heap.get? tA = none → h'.get? tA = some ⟨.type "tuple", none, .seq #[.int l t1, .int c t2] 0, #[]⟩ → Q (.ref tA) (Sh s h' tk)) :
    wpAny (model PG w) A (call (.ref 75) [.str (tx l ++ "." ++ tx c) t]) Q E s := by
  have : PySem.Challenge.rw_mr0153_01.Holds → (hd.heap_39 w.params).In s.heap → True := by (k_fill; intros; trivial)
  clear this
  refine rm.any ?_
  refine' enter (binds := [("index", .str (tx l ++ "." ++ tx c) t)]) (Bs.self s.heap) G.nolimit (G.inH _ _ ?k1) (codeRec_of G.inH ?k2) ?k3 ?k4 ?k5 ?_ ?k6 ?k7 ?k8 ?k9
  case k1 => k_is
  case k2 => k_is
  case k3 => decide
  case k4 => exact BindsTo.of_eq rfl
  case k5 => exact locs rfl
  case k6 => decide
  case k7 => rfl
  case k8 => rfl
  case k9 => rfl
  intro L h₁ F hL kf
  have X := G.inH
  obtain ⟨lo, mn, TP'⟩ := G.T
  have TP := TP'.keeps (fun b o e => (gh_get.mp e).1)
  clear TP'
  have N : News s.heap L h₁ [] := News.nil
  k_steps
  obtain ⟨e1, e2, e3⟩ := split_lc l c hl hc
  refine SCH.split1 (P := Kf h₁) (x := tx l ++ "." ++ tx c) (fun h o k b ob e => Heap.get?_push_of_some _ (k b ob e)) (fun _ _ e => e) (by decide) ?_ (Nat.le_trans e2 (by decide)) (Nat.le_trans e3 (by decide))
  intro D ls h₂ tk hls k₂ hD
  rw [e1] at hls
  have F₂ := keepsF F k₂
  have N₂ : News s.heap L h₂ [] := News.nil
  clear N
  have F₀ := F
  clear F
  k_steps
  obtain ⟨x1, x2, rfl⟩ : ∃ a b, ls = [(tx l, a), (tx c, b)] := by
    match ls, hls with
    | [a, b], hls => simp only [List.map_cons, List.map_nil, List.cons.injEq, and_true] at hls; exact ⟨a.2, b.2, by rw [← hls.1, ← hls.2]⟩
    | [], hls => simp at hls
    | [_], hls => simp at hls
    | _ :: _ :: _ :: _, hls => simp at hls
  have X₂ := In.kp' (it := 0) (h' := h₂) X (fun b o e => k₂ _ _ (kf _ _ e))
  obtain ⟨⟨oc, od, ot, os'⟩, ho, hoc, nn, hot⟩ := id hD
  cases hoc; cases hot
  refine Rm.any (d := 350) (u := 350) (Rm.deeper (by decide) (by decide)) (map_call X₂ ho ?_)
  intro h₃ m tp it t3 k₃ hi n1 n2 hm hit
  have F₂' := F₂
  have F₃ := keepsF F₂ k₃
  have N₃ : News s.heap L h₃ [] := News.nil
  clear F₂ N₂
  k_steps
  refine Stop.go ?_
  rw [assign_Tuple]
  refine wpAny_bind (wpAny_standAt ?_)
  unfold unpack
  refine wpAny_bind (wpAny_holding (map_unpack X₂ (r := ⟨rfl, Nat.le_of_ble_eq_true rfl, Nat.le_of_ble_eq_true rfl⟩) rfl k₃ hD hi n1 n2 hm hit (by omega) hc ?_))
  intro h₄ t4 t5 t6 k₄
  have F₄ := (keepsF F₃ (fun b o e => e))
  clear F₃ N₃
  have F₅ : Fr s.heap L h₄ _ := keepsF F₂' k₄
  have N₅ : News s.heap L h₄ [] := News.nil
  clear F₄
  k_steps
  rename Fr _ _ _ _ => F₆
  rename News _ _ _ _ => N₆
  exact hq _ _ _ _ _ F₆.keep (N₆ _ (.head _)).2.2 (N₆ _ (.head _)).1
end Mine

-- S7a
namespace Mine
open PySem PySem.W PyProof.Rows PySem.Spec PySem.Calls
noncomputable abbrev lst0 : Obj := { cls := .type "list", data := .seq #[] 0 }
section
variable {w : World} {A : Around} {E : Value → Shared → Prop} {s : Shared} {env : Env}
/-- what a comprehension's loop finds: its iterator, the list, the own frame -/
noncomputable def CompGo (w : World) (A : Around) (e : Expr) (scope : Scope) (cl : List (Str × Addr)) (env : Env) (R : Addr → Addr → Shared → Prop) (it : Value) (s₂ : Shared) : Prop :=
  (∀ h', Kf s₂.heap h' → ∀ Q : Value → Shared → Prop, ∀ E, Q it { s₂ with heap := h' } → wpAny (model PG w) A (pyIter it) Q E { s₂ with heap := h' }) ∧
  ∀ D C h₁, s₂.heap.objs.size ≤ D → @LT.lt Nat _ D C → Kf s₂.heap h₁ → h₁.get? D = some lst0 → h₁.Ns C (fun _ => none) →
    ∀ S, codeAny (model PG w) A (.compLoop e 0 it (.ref D) (compEnvC scope cl C env)) (fun r s' => ∃ f, r = .ok f ∧ R D C s') { s₂ with heap := h₁, toks := S }
theorem comp_block {elt : Expr} {g : Comprehension} {gs : List Comprehension} {scope : Scope} {cl : List (Str × Addr)} {pos : Pos} {it : Value} {RR : Value → Addr → Result → Shared → Prop} {R : Addr → Addr → Shared → Prop}
    (hcell : ∀ y ∈ scope.names, y.2 ≠ .cell) (hkind : scope.kind = .function) (ha : g.is_async = 0)
    (h : CompGo w A (.ListComp elt (g :: gs) scope pos) scope cl env R it s)
    (hR : ∀ D C f s', R D C s' → RR (.ref D) C (.ok f) s') :
    wpAny (model PG w) A (newList []) (fun acc s₃ => wpAny (model PG w) A (newFunctionEnv scope env.globals cl [] env.qual none .none (some env)) (fun cenv s₄ =>
      codeAny (model PG w) A (.compStart (.ListComp elt (g :: gs) scope pos) 0 it acc { cenv with scope := relabel scope env }) (RR acc cenv.locals) s₄) E s₃) E s := by
  refine wpAny_newObj_type (wpAny_newFunctionEnv hcell (by intro y hy; simp at hy) (fun h₁ hns₁ hsb₁ => ?_) hkind)
  dsimp only at hns₁ hsb₁ ⊢
  generalize hH2 : s.heap.push { cls := .type "list", dict := none, data := .seq ([] : List Value).toArray } = H2 at hns₁ hsb₁ ⊢
  have hC : H2.objs.size = s.heap.objs.size + 1 := by rw [← hH2, Heap.size_push]
  have hDC : @LT.lt Nat _ s.heap.objs.size H2.objs.size := by rw [hC]; exact Nat.lt_succ_self _
  have old : Kf s.heap h₁ := fun b o e => hsb₁.extBut b o (Nat.ne_of_lt (Nat.lt_trans (Heap.lt_size e) hDC)) (Heap.get?_push_of_some _ (hH2 ▸ Heap.get?_push_of_some _ e))
  have hacc : h₁.get? s.heap.objs.size = some lst0 := hsb₁.extBut _ _ (Nat.ne_of_lt hDC) (Heap.get?_push_of_some _ (hH2 ▸ Heap.get?_push_size _ rfl))
  have go := h.2 s.heap.objs.size H2.objs.size h₁ (Nat.le_refl _) hDC old hacc hns₁ (s.toks + ([] : List (Str × Value)).length)
  have go' := codeAny_mono go (R' := RR (.ref s.heap.objs.size) H2.objs.size) fun r s' ⟨f, e, x⟩ => e ▸ hR _ _ f s' x
  obtain ⟨tg, gi, gf, ga⟩ := g
  cases ha
  refine codeAny_compStart_list go' ?_
  exact h.1 h₁ old _ _ go'
theorem comp_eval {elt : Expr} {g : Comprehension} {gs : List Comprehension} {scope : Scope} {cl : List (Str × Addr)} {pos : Pos} {Q : Value → Shared → Prop}
    (hclos : closureFor scope env = pure cl) (hcell : ∀ y ∈ scope.names, y.2 ≠ .cell) (hkind : scope.kind = .function)
    (hnames : ∀ y ∈ scope.names, y.2 = .local → scope.names.lookup y.1 = some .local) (ha : g.is_async = 0) (hs : ∀ x, foldedSetIterable g.iter env x = pure x)
    (h : wpAny (model PG w) A (eval g.iter env) (fun x s₁ => wpAny (model PG w) A (pyIter x) (CompGo w A (.ListComp elt (g :: gs) scope pos) scope cl env
      (fun D C s' => ∃ m, s'.heap.Ns C m ∧ ∀ h', Heap.SameBut C s'.heap h' → Q (.ref D) { s' with heap := h' })) E s₁) E s) :
    wpAny (model PG w) A (eval (.ListComp elt (g :: gs) scope pos) env) Q E s := by
  rw [eval_ListComp]
  obtain ⟨tg, gi, gf, ga⟩ := g
  cases ha
  refine wpAny_comprehension_free (use := none) rfl hs hclos hkind hnames (wpAny_mono h (fun xv s₁ h₁ => wpAny_mono h₁ (fun it s₂ h₂ => comp_block hcell hkind rfl h₂ ?_) fun _ _ e => e) fun _ _ e => e)
  exact fun D C f s' x => x
theorem comp_assign {elt : Expr} {g : Comprehension} {gs : List Comprehension} {scope : Scope} {cl : List (Str × Addr)} {pos spos py : Pos} {y : Str} {Q : Flow → Shared → Prop}
    (hsw : swapsWith (.ListComp elt (g :: gs) scope pos) (some (.Name y py)) spos.line env = pure true)
    (hclos : closureFor scope env = pure cl) (hcell : ∀ y ∈ scope.names, y.2 ≠ .cell) (hkind : scope.kind = .function)
    (hnames : ∀ y ∈ scope.names, y.2 = .local → scope.names.lookup y.1 = some .local) (ha : g.is_async = 0) (hs : ∀ x, foldedSetIterable g.iter env x = pure x)
    (h : wpAny (model PG w) A (eval g.iter env) (fun x s₁ => wpAny (model PG w) A (pyIter x) (CompGo w A (.ListComp elt (g :: gs) scope pos) scope cl env
      (fun D C s' => wpAny (model PG w) A (assign (.Name y py) env (.ref D)) (fun _ s'' => ∃ m, s''.heap.Ns C m ∧ ∀ h', Heap.SameBut C s''.heap h' → Q .next { s'' with heap := h' }) E s')) E s₁) E s) :
    wpAny (model PG w) A (exec (.Assign [.Name y py] (.ListComp elt (g :: gs) scope pos) spos) env) Q E s := by
  rw [exec_Assign_Name_used _ _ _ _ hsw]
  refine wpAny_bind (wpAny_standAt (wpAny_bind ?_))
  obtain ⟨tg, gi, gf, ga⟩ := g
  cases ha
  show wpAny _ A (do let _ ← comprehension (.ListComp elt (⟨tg, gi, gf, 0⟩ :: gs) scope pos) scope env _ (newList []) false (eval gi env) (some (assign (.Name y py) env))) _ _ s
  refine wpAny_bind (wpAny_mono (wpAny_comprehension_free (use := some (assign (.Name y py) env)) (Q := fun _ s' => Q .next s') rfl hs hclos hkind hnames
    (wpAny_mono h (fun xv s₁ h₁ => wpAny_mono h₁ (fun it s₂ h₂ => comp_block hcell hkind rfl h₂ ?_) fun _ _ e => e) fun _ _ e => e)) (fun _ s' hq => wpAny_pure (wpAny_pure hq)) fun _ _ e => e)
  exact fun D C f s' x => x
end
end Mine

-- S7b
namespace Mine
open PySem PySem.W PyProof.Rows PySem.Spec PySem.Calls
noncomputable def KX (xs : List Addr) (h h' : Heap) : Prop := ∀ b o, b ∉ xs → h.get? b = some o → h'.get? b = some o
theorem KX.refl {xs h} : KX xs h h := fun _ _ _ e => e
theorem KX.trans {xs h h' h''} (a : KX xs h h') (b : KX xs h' h'') : KX xs h h'' := fun x o n e => b x o n (a x o n e)
theorem KX.mono {xs ys h h'} (a : KX xs h h') (s : ∀ x ∈ xs, x ∈ ys) : KX ys h h' := fun x o n e => a x o (fun m => n (s x m)) e
theorem KX.sb {a : Addr} {xs h h'} (k : Heap.SameBut a h h') (m : a ∈ xs) : KX xs h h' := fun x o n e => k.extBut x o (fun q => n (q ▸ m)) e
theorem KX.eb {a : Addr} {xs h h'} (k : Heap.ExtBut a h h') (m : a ∈ xs) : KX xs h h' := fun x o n e => k x o (fun q => n (q ▸ m)) e
theorem KX.kf {xs h h'} (k : Kf h h') : KX xs h h' := fun x o _ e => k x o e
noncomputable def Zs (n : Nat) (ys : Array Value) : Prop := ys.size = n ∧ ∀ v ∈ ys.toList, ∃ t, v = .int 0 t
theorem Zs.push {n : Nat} {ys : Array Value} {t : Tok} (z : Zs n ys) : Zs (n + 1) (ys.push (.int 0 t)) := by
  refine ⟨by rw [Array.size_push, z.1], fun v hv => ?_⟩
  rw [Array.toList_push] at hv
  rcases List.mem_append.mp hv with hv | hv
  · exact z.2 v hv
  · exact ⟨t, List.mem_singleton.mp hv⟩
section
variable {w : World} {A : Around} {E : Value → Shared → Prop} {s : Shared} {env : Env} {R : Result → Shared → Prop}
/-- the second clause's loop is begun -/
theorem compStart1 {elt g0 target iter ifs scope pos it acc}
    (h0 : codeAny (model PG w) A (.compLoop (.ListComp elt (g0 :: ⟨target, iter, ifs, 0⟩ :: []) scope pos) 1 it acc env) R s)
    (h : wpAny (model PG w) A (pyIter it) (fun it' s' => codeAny (model PG w) A (.compLoop (.ListComp elt (g0 :: ⟨target, iter, ifs, 0⟩ :: []) scope pos) 1 it' acc env) R s')
      (notedBy (model PG w) A env fun x s' => R (.error x) s') s) :
    codeAny (model PG w) A (.compStart (.ListComp elt (g0 :: ⟨target, iter, ifs, 0⟩ :: []) scope pos) 1 it acc env) R s := by
  refine codeAny_of_tree (wpAny_notedAt (m := compStart _ 1 it acc env) ?_)
  unfold compStart
  refine wpAny_bind (m := ask) (wpAny_askSetting (wpAny_ite ?_))
  split
  · exact wpAny_pure ⟨rfl, h0⟩
  · exact wpAny_bind (wpAny_rule (wpAny_bind (wpAny_standAt (wpAny_bind (wpAny_mono h (fun _ _ q => wpAny_pure ⟨rfl, q⟩) fun _ _ x => x)))))
theorem turn1 {elt g0 target iter scope pos it acc env} : compTurn (.ListComp elt (g0 :: ⟨target, iter, [], 0⟩ :: []) scope pos) 1 it acc env = (standAt iter.pos >>= fun _ => pyNext it >>= fun r => match r with
      | none => pure (.done .next)
      | some v => letOwnedTupleGo target it v >>= fun _ => assign target env v >>= fun _ =>
        (eval elt env >>= fun x => call (.builtin "list.append") [acc, x] >>= fun _ => pure ()) >>= fun _ =>
          again (.compLoop (.ListComp elt (g0 :: ⟨target, iter, [], 0⟩ :: []) scope pos) 1 it acc env)) := by rfl
theorem turn0 {elt g1 target iter scope pos it acc env} (ha : g1.is_async = 0) : compTurn (.ListComp elt (⟨target, iter, [], 0⟩ :: g1 :: []) scope pos) 0 it acc env = (standAt iter.pos >>= fun _ => pyNext it >>= fun r => match r with
      | none => pure (.done .next)
      | some v => letOwnedTupleGo target it v >>= fun _ => assign target env v >>= fun _ =>
        (eval g1.iter env >>= fun x => standAt g1.iter.pos >>= fun _ => foldedSetIterable g1.iter env x >>= fun x => holding [x] (pyIter x) >>= fun it1 => runOwn (.compStart (.ListComp elt (⟨target, iter, [], 0⟩ :: g1 :: []) scope pos) 1 it1 acc env) env >>= fun _ => 
          again (.compLoop (.ListComp elt (⟨target, iter, [], 0⟩ :: g1 :: []) scope pos) 0 it acc env))) := by
  obtain ⟨tg, gi, gf, ga⟩ := g1
  cases ha
  rfl
theorem zeros_inner {g0 : Comprehension} {x1 : Str} {p1 pos pc : Pos} {k1 : Nat} {i1 : Expr} {scope : Scope} {cl : List (Str × Addr)} {C D I : Addr} {m : Str → Option Value} {ys : Array Value} {n : Nat}
    (hh : A.handled = none) (hx : scope.names.lookup x1 = some .local) (hk : scope.kind = .function) (hit : IsRangeIter s.heap I 0 10 1) (hD : s.heap.PlainList D ys) (hz : Zs n ys) (hn : n ≤ 100) (hC : s.heap.Ns C m)
    (n1 : @Ne Nat I C) (n2 : @Ne Nat I D) (n3 : @Ne Nat C D)
    (hR : ∀ h' tk ys' m', KX [I, C, D] s.heap h' → Zs (n + 10) ys' → h'.PlainList D ys' → h'.Ns C m' → R (.ok .next) (Sh s h' tk)) :
    codeAny (model PG w) A (.compStart (.ListComp (.Constant (.int 0) k1 pc) (g0 :: ⟨.Name x1 p1, i1, [], 0⟩ :: []) scope pos) 1 (.ref I) (.ref D) (compEnvC scope cl C env)) R s := by
  have lp : codeAny (model PG w) A (.compLoop (.ListComp (.Constant (.int 0) k1 pc) (g0 :: ⟨.Name x1 p1, i1, [], 0⟩ :: []) scope pos) 1 (.ref I) (.ref D) (compEnvC scope cl C env)) R s := by
    refine codeAny_loop rfl (fun j s' => ∃ i h' tk ys' m', i ≤ 10 ∧ j = 10 - i ∧ s' = Sh s h' tk ∧ KX [I, C, D] s.heap h' ∧ Zs (n + i) ys' ∧ h'.PlainList D ys' ∧ h'.Ns C m' ∧ IsRangeIter h' I i (10 - i) 1) ?_ 10
      ⟨0, s.heap, s.toks, ys, m, by omega, rfl, rfl, KX.refl, hz, hD, hC, by simpa using hit⟩
    rintro j s' ⟨i, h', tk, ys', m', hi, rfl, rfl, kx, hz', hD', hC', hit'⟩
    show wpAny _ _ ((compTurn _ 1 (.ref I) (.ref D) (compEnvC scope cl C env)).onRaise (fun x => do noteFrame x (compEnvC scope cl C env); theTreesLotGoes x)) _ _ _
    refine wpAny_noted ?_
    rw [turn1]
    refine wpAny_bind (wpAny_standAt (wpAny_bind ?_))
    by_cases hlt : i < 10
    · refine wpAny_pyNext_range_item hit' (by omega) fun h₁ hit₁ hs₁ => ?_
      refine wpAny_bind (m := letOwnedTupleGo _ _ _) (wpAny_of_eq rfl ?_)
      have c1 : h₁.Ns C m' := hC'.at' fun o e => hs₁.extBut _ _ (Ne.symm n1) e
      refine wpAny_bind (wpAny_assign_Name (wpAny_storeName_local (lookup_relabel_local hx) c1 (fun h₃ hn₃ hs₃ => ?_) (by simp [compEnvC, relabel, hk])))
      refine wpAny_bind (wpAny_bind (wpAny_Constant_int ?_))
      have d1 : h₁.PlainList D ys' := let ⟨q, e⟩ := hD'; ⟨q, hs₁.extBut _ _ (Ne.symm n2) e⟩
      have d3 : h₃.PlainList D ys' := let ⟨q, e⟩ := d1; ⟨q, hs₃.extBut _ _ (Ne.symm n3) e⟩
      refine wpAny_bind (wpAny_list_append_plain d3 (fun h₄ hd₄ hs₄ => ?_) (by rw [hz'.1]; exact Nat.le_trans (show n + i ≤ 200 by omega) (by decide)))
      refine wpAny_pure (wpAny_pure ⟨rfl, 10 - (i + 1), by omega, i + 1, h₄, _, _, _, by omega, rfl, rfl, ?_, hz'.push, hd₄, hn₃.at' fun o e => hs₄.extBut _ _ n3 e, ?_⟩)
      · exact kx.trans ((KX.sb hs₁ (.head _)).trans ((KX.sb hs₃ (.tail _ (.head _))).trans (KX.sb hs₄ (.tail _ (.tail _ (.head _))))))
      · have e1 : ((i + 1 : Nat) : Int) = (i : Int) + 1 := by omega
        have e2 : (10 : Int) - ((i + 1 : Nat) : Int) = 10 - (i : Int) - 1 := by omega
        rw [e1]
        have e3 : (10 : Int) - ((i : Int) + 1) = 10 - (i : Int) - 1 := by omega
        rw [e3]
        exact hs₄.extBut _ _ n2 (hs₃.extBut _ _ n1 hit₁)
    · obtain rfl : i = 10 := by omega
      refine wpAny_pyNext_range_end hh hit' (by omega) fun h₁ he₁ => wpAny_pure ?_
      exact hR h₁ _ ys' m' (kx.trans (KX.eb he₁ (.head _))) hz' (let ⟨q, e⟩ := hD'; ⟨q, he₁ _ _ (Ne.symm n2) e⟩) (hC'.at' fun o e => he₁ _ _ (Ne.symm n1) e)
  exact compStart1 lp (wpAny_pyIter_rangeiter hit lp)
theorem zeros_outer {x0 x1 : Str} {p0 p1 pos pc : Pos} {k1 : Nat} {i0 i1 : Expr} {scope : Scope} {cl : List (Str × Addr)} {C D I rA : Addr} {m : Str → Option Value} {vs : Array Value}
    (hh : A.handled = none) (hx0 : scope.names.lookup x0 = some .local) (hx1 : scope.names.lookup x1 = some .local) (hk : scope.kind = .function) (hs : ∀ x, foldedSetIterable i1 (compEnvC scope cl C env) x = pure x)
    (hl : s.heap.IsList rA vs) (hN : vs.size ≤ 3) (hit : s.heap.IsListIter I rA 0) (hD : s.heap.PlainList D #[]) (hC : s.heap.Ns C m)
    (n1 : @Ne Nat I C) (n2 : @Ne Nat I D) (n3 : @Ne Nat C D) (n4 : rA ∉ [I, C, D])
    (hev : ∀ h' tk m', KX [I, C, D] s.heap h' → h'.Ns C m' → ∀ (Q E : Value → Shared → Prop), (∀ r h'' tk' t u v, Kf h' h'' → IsRange h'' r 0 10 1 t u v → Q (.ref r) (Sh s h'' tk')) →
      wpAny (model PG w) A (eval i1 (compEnvC scope cl C env)) Q E (Sh s h' tk))
    (hR : ∀ h' tk ys' m', KX [I, C, D] s.heap h' → Zs (10 * vs.size) ys' → h'.PlainList D ys' → h'.Ns C m' → R (.ok .next) (Sh s h' tk)) :
    codeAny (model PG w) A (.compLoop (.ListComp (.Constant (.int 0) k1 pc) (⟨.Name x0 p0, i0, [], 0⟩ :: ⟨.Name x1 p1, i1, [], 0⟩ :: []) scope pos) 0 (.ref I) (.ref D) (compEnvC scope cl C env)) R s := by
  have kl : ∀ {h' : Heap}, KX [I, C, D] s.heap h' → h'.IsList rA vs := fun k => let ⟨o, e, r⟩ := hl; ⟨o, k _ _ n4 e, r⟩
  refine codeAny_loop rfl (fun j s' => ∃ i h' tk ys' m', i ≤ vs.size ∧ j = vs.size - i ∧ s' = Sh s h' tk ∧ KX [I, C, D] s.heap h' ∧ Zs (10 * i) ys' ∧ h'.PlainList D ys' ∧ h'.Ns C m' ∧ h'.IsListIter I rA i) ?_ vs.size
      ⟨0, s.heap, s.toks, #[], m, Nat.zero_le _, rfl, rfl, KX.refl, ⟨rfl, fun _ h => (nomatch h)⟩, hD, hC, hit⟩
  rintro j s' ⟨i, h', tk, ys', m', hi, rfl, rfl, kx, hz', hD', hC', hit'⟩
  show wpAny _ _ ((compTurn _ 0 (.ref I) (.ref D) (compEnvC scope cl C env)).onRaise (fun x => do noteFrame x (compEnvC scope cl C env); theTreesLotGoes x)) _ _ _
  refine wpAny_noted ?_
  rw [turn0 rfl]
  refine wpAny_bind (wpAny_standAt (wpAny_bind ?_))
  by_cases hlt : i < vs.size
  · refine wpAny_pyNext_list_item hit' (kl kx) (x := vs[i]) (by simp [hlt]) fun h₁ hit₁ hs₁ => ?_
    refine wpAny_bind (m := letOwnedTupleGo _ _ _) (wpAny_of_eq rfl ?_)
    have c1 : h₁.Ns C m' := hC'.at' fun o e => hs₁.extBut _ _ (Ne.symm n1) e
    refine wpAny_bind (wpAny_assign_Name (wpAny_storeName_local (lookup_relabel_local hx0) c1 (fun h₃ hn₃ hs₃ => ?_) (by simp [compEnvC, relabel, hk])))
    have k3 : KX [I, C, D] s.heap h₃ := kx.trans ((KX.sb hs₁ (.head _)).trans (KX.sb hs₃ (.tail _ (.head _))))
    refine wpAny_bind (hev h₃ _ _ k3 hn₃ _ _ fun r h₄ tk₄ t u v k₄ hr => ?_)
    refine wpAny_bind (wpAny_standAt (wpAny_bind (wpAny_of_eq (hs _) (wpAny_bind (wpAny_holding ?_)))))
    refine wpAny_pyIter_range hr (by decide) ?_
    refine wpAny_bind (wpAny_runOwn ?_)
    have d4 : h₄.PlainList D ys' := let ⟨q, e⟩ := hD'; ⟨q, k₄ _ _ (hs₃.extBut _ _ (Ne.symm n3) (hs₁.extBut _ _ (Ne.symm n2) e))⟩
    have c4 : h₄.Ns C _ := hn₃.keeps k₄
    have i4 : h₄.IsListIter I rA (i + 1) := let ⟨o, e, r⟩ := hit₁; ⟨o, k₄ _ _ (hs₃.extBut _ _ n1 e), r⟩
    have lC : @LT.lt Nat _ C h₄.objs.size := c4.lt
    have lD : @LT.lt Nat _ D h₄.objs.size := let ⟨q, e⟩ := d4; Heap.lt_size e
    have lI : @LT.lt Nat _ I h₄.objs.size := let ⟨o, e, r⟩ := i4; Heap.lt_size e
    have up : Kf h₄ (h₄.push _) := fun b o e => Heap.get?_push_of_some { cls := .type "range_iterator", data := .fields #[.int 0 0, .int 10 0, .int 1 0] } e
    refine zeros_inner (I := h₄.objs.size) (n := 10 * i) hh hx1 hk (by exact Heap.get?_push_size _ rfl) (ys := ys') (let ⟨q, e⟩ := d4; ⟨q, Heap.get?_push_of_some _ e⟩) hz' (by omega) (c4.keeps fun b o e => Heap.get?_push_of_some _ e) (Nat.ne_of_gt lC) (Nat.ne_of_gt lD) n3 ?_
    intro h₅ tk₅ ys₅ m₅ kx₅ hz₅ hd₅ hc₅
    have kk : ∀ b o, b ∉ [C, D] → h₄.get? b = some o → h₅.get? b = some o := fun b o nb e => kx₅ b o (by
      intro hm
      rcases List.mem_cons.mp hm with rfl | hm
      · exact Nat.lt_irrefl _ (Heap.lt_size e)
      · exact nb hm) (Heap.get?_push_of_some _ e)
    refine wpAny_pure ⟨rfl, vs.size - (i + 1), by omega, i + 1, h₅, _, ys₅, m₅, by omega, rfl, rfl, ?_, hz₅, hd₅, hc₅, ?_⟩
    · exact k3.trans (KX.trans (KX.kf k₄) fun b o nb e => kk b o (fun hm => nb (.tail _ hm)) e)
    · obtain ⟨o, e, r⟩ := i4
      exact ⟨o, kk _ _ (by
        intro hm
        rcases List.mem_cons.mp hm with hm | hm
        · exact n1 hm
        · exact n2 (List.mem_singleton.mp hm)) e, r⟩
  · obtain rfl : i = vs.size := by omega
    refine wpAny_pyNext_list_end hh hit' (kl kx) (by simp) fun h₁ he₁ => wpAny_pure ?_
    exact hR h₁ _ ys' m' (kx.trans (KX.eb he₁ (.head _))) hz' (let ⟨q, e⟩ := hD'; ⟨q, he₁ _ _ (Ne.symm n2) e⟩) (hC'.at' fun o e => he₁ _ _ (Ne.symm n1) e)
end
end Mine

-- S7c
namespace Mine
open PySem PySem.W PyProof.Rows PySem.Spec PySem.Calls
noncomputable def picks (p : Nat → Bool) (S : Str) : Nat → List Str
  | 0 => []
  | i + 1 => picks p S i ++ if p i then [⟨#[S.cps.getD i 0]⟩] else []
theorem picks_len {p S} : ∀ n, (picks p S n).length ≤ n
  | 0 => Nat.le_refl _
  | n + 1 => by
    unfold picks
    have := @picks_len p S n
    rw [List.length_append]
    split <;> simp <;> omega
section
variable {w : World} {A : Around} {E : Value → Shared → Prop} {s : Shared} {env : Env} {R : Result → Shared → Prop}
theorem letters_loop {xk xs : Str} {pk ps pt pos : Pos} {kk : Nat} {elt test iter : Expr} {scope : Scope} {cl : List (Str × Addr)} {C D e it : Addr} {m : Str → Option Value} {S : Str} {t0 : Tok} (p : Nat → Bool)
    (hh : A.handled = none) (hxk : scope.names.lookup xk = some .local) (hxs : scope.names.lookup xs = some .local) (hk : scope.kind = .function) (hne : xk ≠ xs) (hS : S.cps.size ≤ 100)
    (he : IsEnum s.heap e it 0 .none) (hit : s.heap.IsStrIter it "str_ascii_iterator" S t0 0) (hD : s.heap.PlainList D #[]) (hC : s.heap.Ns C m)
    (n1 : @Ne Nat e it) (n2 : @Ne Nat e C) (n3 : @Ne Nat e D) (n4 : @Ne Nat it C) (n5 : @Ne Nat it D) (n6 : @Ne Nat C D)
    (htest : ∀ i h' tk m' u, i < S.cps.size → KX [e, it, C, D] s.heap h' → h'.Ns C m' → m' xk = some (.int (i : Nat) u) → ∀ (Q : Bool → Shared → Prop) (E : Value → Shared → Prop), (∀ h'' tk', Kf h' h'' → Q (p i) (Sh s h'' tk')) →
      wpAny (model PG w) A (isTrue test (compEnvC scope cl C env) (eval test (compEnvC scope cl C env))) Q E (Sh s h' tk))
    (helt : ∀ h' tk m' v, KX [e, it, C, D] s.heap h' → h'.Ns C m' → m' xs = some v → ∀ (Q E : Value → Shared → Prop), Q v (Sh s h' tk) → wpAny (model PG w) A (eval elt (compEnvC scope cl C env)) Q E (Sh s h' tk))
    (hR : ∀ h' tk m' l, KX [e, it, C, D] s.heap h' → h'.PlainList D (strValues l).toArray → l.map (·.1) = picks p S S.cps.size → h'.Ns C m' → R (.ok .next) (Sh s h' tk)) :
    codeAny (model PG w) A (.compLoop (.ListComp elt [⟨.Tuple [.Name xk pk, .Name xs ps] kk pt, iter, [test], 0⟩] scope pos) 0 (.ref e) (.ref D) (compEnvC scope cl C env)) R s := by
  have W := WalksT.enumerateD (prog := PG) (w := w) (A := A) (Draws.strAscii (A := A.in1) hh it S t0) e n1 (fun h => n1 (List.mem_singleton.mp h)) (.head _)
  refine codeAny_loop rfl (fun j s' => ∃ i h' tk l m', i ≤ S.cps.size ∧ j = S.cps.size - i ∧ s' = Sh s h' tk ∧ KX [e, it, C, D] s.heap h' ∧ h'.PlainList D (strValues l).toArray ∧ l.map (·.1) = picks p S i ∧ h'.Ns C m' ∧
      (∃ old, IsEnum h' e it (i : Nat) old) ∧ h'.IsStrIter it "str_ascii_iterator" S t0 i) ?_ S.cps.size
      ⟨0, s.heap, s.toks, [], m, Nat.zero_le _, rfl, rfl, KX.refl, hD, rfl, hC, ⟨_, he⟩, hit⟩
  rintro j s' ⟨i, h', tk, l, m', hi, rfl, rfl, kx, hD', hl', hC', he', hit'⟩
  show wpAny _ _ ((compTurn _ 0 (.ref e) (.ref D) (compEnvC scope cl C env)).onRaise (fun x => do noteFrame x (compEnvC scope cl C env); theTreesLotGoes x)) _ _ _
  refine wpAny_noted ?_
  rw [compTurn_list]
  refine wpAny_bind (wpAny_standAt (wpAny_bind ?_))
  have cW : C ∉ [e, it] := fun h => by
    rcases List.mem_cons.mp h with h | h
    · exact n2 h.symm
    · exact n4 (List.mem_singleton.mp h).symm
  have dW : D ∉ [e, it] := fun h => by
    rcases List.mem_cons.mp h with h | h
    · exact n3 h.symm
    · exact n5 (List.mem_singleton.mp h).symm
  have up : ∀ {H H' : Heap}, (∀ b o, b ∉ [e, it] → H.get? b = some o → H'.get? b = some o) → KX [e, it, C, D] H H' := fun k b o nb x => k b o (fun hm => nb (by
    rcases List.mem_cons.mp hm with h | h
    · rw [h]; exact .head _
    · rw [List.mem_singleton.mp h]; exact .tail _ (.head _))) x
  by_cases hlt : i < S.cps.size
  · refine W.item i _ _ _ hlt ⟨he', hit'⟩ fun T vals h₁ tk₁ hP hT hTu hMid k₁ => ?_
    obtain ⟨u, x, ⟨c, u2, hc, rfl⟩, rfl⟩ := hP
    refine wpAny_bind (W.go _ _ _ i T _ _ _ hMid fun h₂ hst₂ k₂ => ?_)
    have tu₂ : h₂.IsTuple T #[.int (i : Nat) u, .str ⟨#[c]⟩ u2] := by
      obtain ⟨o, eo, r⟩ := hTu; exact ⟨o, k₂ _ _ (W.apart _ _ _ hMid) eo, r⟩
    refine wpAny_bind (wpAny_assign_Tuple hh tu₂ rfl rfl fun h₃ k₃ => ?_)
    have k3 : Kf h₂ h₃ := fun b o x => k₃ b o (Nat.ne_of_lt (Heap.lt_size x)) x
    have c3 : h₃.Ns C m' := hC'.at' fun o x => k3 _ _ (k₂ _ _ cW (k₁ _ _ cW x))
    show wpAny _ A (do holding [.str ⟨#[c]⟩ u2] (assign (.Name xk pk) (compEnvC scope cl C env) (.int (i : Nat) u)); do holding [] (assign (.Name xs ps) (compEnvC scope cl C env) (.str ⟨#[c]⟩ u2)); pure ()) _ _ _
    refine wpAny_bind (wpAny_holding (wpAny_assign_Name (wpAny_storeName_local (lookup_relabel_local hxk) c3 (fun h₄ c4 hs₄ => ?_) (by simp [compEnvC, relabel, hk]))))
    refine wpAny_bind (wpAny_holding (wpAny_assign_Name (wpAny_storeName_local (lookup_relabel_local hxs) c4 (fun h₅ c5 hs₅ => wpAny_pure ?_) (by simp [compEnvC, relabel, hk]))))
    have kx5 : KX [e, it, C, D] s.heap h₅ := kx.trans ((up k₁).trans ((up k₂).trans ((KX.kf k3).trans ((KX.sb hs₄ (.tail _ (.tail _ (.head _)))).trans (KX.sb hs₅ (.tail _ (.tail _ (.head _))))))))
    have d5 : h₅.PlainList D (strValues l).toArray := let ⟨q, x⟩ := hD'; ⟨q, hs₅.extBut _ _ (Ne.symm n6) (hs₄.extBut _ _ (Ne.symm n6) (k3 _ _ (k₂ _ _ dW (k₁ _ _ dW x))))⟩
    have st5 : (∃ old, IsEnum h₅ e it ((i + 1 : Nat)) old) ∧ h₅.IsStrIter it "str_ascii_iterator" S t0 (i + 1) := W.frame _ _ _ hst₂ fun b hb o x => by
      have bC : b ≠ C := fun q => cW (q ▸ hb)
      exact hs₅.extBut _ _ bC (hs₄.extBut _ _ bC (k3 _ _ x))
    refine wpAny_bind (wpAny_tests_one (htest i h₅ _ _ u hlt kx5 c5 (by simp [hne]) _ _ fun h₆ tk₆ k₆ => ?_))
    have kx6 : KX [e, it, C, D] s.heap h₆ := kx5.trans (KX.kf k₆)
    have d6 : h₆.PlainList D (strValues l).toArray := let ⟨q, x⟩ := d5; ⟨q, k₆ _ _ x⟩
    have c6 := c5.keeps k₆
    have st6 := W.frame _ _ _ st5 fun b _ o x => k₆ _ _ x
    have hcg : S.cps.getD i 0 = c := by simp [Array.getD, hlt] at hc ⊢; exact hc
    cases hp : p i with
    | true =>
      rw [if_pos rfl]
      refine wpAny_bind (wpAny_bind (helt h₆ _ _ (.str ⟨#[c]⟩ u2) kx6 c6 (by simp) _ _ (wpAny_bind (wpAny_list_append_plain d6 (fun h₇ hd₇ hs₇ => ?_) ?_))))
      · refine wpAny_pure (wpAny_pure ⟨rfl, S.cps.size - (i + 1), by omega, i + 1, h₇, _, l ++ [(⟨#[c]⟩, u2)], _, by omega, rfl, rfl, kx6.trans (KX.sb hs₇ (.tail _ (.tail _ (.tail _ (.head _))))), ?_, ?_, c6.at' fun o x => hs₇.extBut _ _ n6 x, ?_⟩)
        · obtain ⟨q, x⟩ := hd₇
          refine ⟨q, ?_⟩
          rw [x]
          simp [strValues]
        · rw [List.map_append, hl', picks, hp, hcg]; rfl
        · exact W.frame _ _ _ st6 fun b hb o x => hs₇.extBut _ _ (fun q => dW (q ▸ hb)) x
      · have hlen : l.length = (picks p S i).length := by rw [← hl', List.length_map]
        have := @picks_len p S i
        refine Nat.le_trans ?_ (show 100 ≤ sizeLine by decide)
        simp only [strValues, List.size_toArray, List.length_map]
        omega
    | false =>
      rw [if_neg (by simp)]
      refine wpAny_pure ⟨rfl, S.cps.size - (i + 1), by omega, i + 1, h₆, _, l, _, by omega, rfl, rfl, kx6, d6, ?_, c6, st6⟩
      rw [hl', picks, hp]; simp
  · obtain rfl : i = S.cps.size := by omega
    refine W.done _ _ _ ⟨he', hit'⟩ fun h₁ tk₁ k₁ => wpAny_pure ?_
    exact hR h₁ _ m' l (kx.trans (up k₁)) (let ⟨q, x⟩ := hD'; ⟨q, k₁ _ _ dW x⟩) hl' (hC'.at' fun o x => k₁ _ _ cW x)
end
end Mine

-- S7d
namespace Mine
open PySem PySem.W PyProof.Rows PySem.Spec PySem.Calls
theorem TupsOf.at {h : Heap} : ∀ {vs : List Value} {ps : List (Str × Str)}, TupsOf h vs ps → ∀ {k : Nat} {p : Str × Str}, ps[k]? = some p → ∃ v, vs[k]? = some v ∧ TupOf h v p
  | [], [], _, _, _, h => by simp at h
  | v :: _, p :: _, x, 0, q, h => by simp at h; subst h; exact ⟨v, rfl, x.1⟩
  | _ :: _, _ :: _, x, k + 1, q, h => by
    have h' : _ := h
    rw [List.getElem?_cons_succ] at h'
    obtain ⟨v, e, y⟩ := TupsOf.at x.2 h'
    exact ⟨v, by rw [List.getElem?_cons_succ]; exact e, y⟩
section
variable {w : World} {A : Around} {E : Value → Shared → Prop} {s : Shared} {env : Env}
theorem for_pairs {Q : Flow → Shared → Prop} {xb xe : Str} {pb pe pt : Pos} {kk : Nat} {body : List Stmt} {a : Addr} {ps : List (Str × Str)} {vs : List Value} {n : Nat}
    (hh : A.handled = none) (ha : s.heap.get? a = some ⟨.type "list", none, .seq vs.toArray n, #[]⟩) (hps : TupsOf s.heap vs ps)
    (I : Addr → Nat → Shared → Prop) (R : Shared → Prop)
    (h0 : ∀ it h', it = s.heap.objs.size → Kf s.heap h' → h'.IsListIter it a 0 → I it 0 { s with heap := h' })
    (hI : ∀ it k s', I it k s' → s'.heap.IsListIter it a k ∧ s'.heap.get? a = some ⟨.type "list", none, .seq vs.toArray n, #[]⟩ ∧ TupsOf s'.heap vs ps)
    (turn : ∀ it k s' h₁ p t1 t2, ps[k]? = some p → I it k s' → h₁.IsListIter it a (k + 1) → KX [it] s'.heap h₁ →
      wpAny (model PG w) A (storeName env xb (.str p.1 t1)) (fun _ s₂ => wpAny (model PG w) A (storeName env xe (.str p.2 t2)) (fun _ s₃ => wpAny (model PG w) A (execs body env) (fun f s₄ => match f with
        | .next | .cont => Stop (I it (k + 1) s₄)
        | .brk => Stop (R s₄)
        | .ret v => Q (.ret v) s₄) (fun _ _ => False) s₃) (fun _ _ => False) s₂) (fun _ _ => False) { s' with heap := h₁ })
    (last : ∀ it s' h₁, I it ps.length s' → Heap.ExtBut it s'.heap h₁ → R { s' with heap := h₁ }) (after : ∀ s', R s' → Q .next s') :
    wpAny (model PG w) A (pyIter (.ref a)) (fun it s₂ =>
      codeAny (model PG w) A (.forLoop (.Tuple [.Name xb pb, .Name xe pe] kk pt) it body [] env) (fun r s' => match r with | .ok f => Q f s' | .error e => cameBackBy (model PG w) A env E e s') s₂) E s := by
  have hlen := hps.length
  have lst : ∀ {h : Heap}, h.get? a = some ⟨.type "list", none, .seq vs.toArray n, #[]⟩ → h.IsList a vs.toArray := fun e => ⟨_, e, rfl, n, rfl⟩
  refine wpAny_pyIter_list (lst ha) ?_
  refine codeAny_forLoop_any (fun m s' => ∃ k, k ≤ ps.length ∧ m = ps.length - k ∧ I s.heap.objs.size k s') ?_ ps.length
    ⟨0, Nat.zero_le _, rfl, h0 _ _ rfl (fun b o e => Heap.get?_push_of_some _ e) ⟨_, Heap.get?_push_size _ rfl, rfl, rfl⟩⟩
  rintro m s' ⟨k, hk, rfl, hi⟩
  obtain ⟨hit, hal, htp⟩ := hI _ _ _ hi
  by_cases hlt : k < ps.length
  · obtain ⟨v, hv, tA, t1, t2, rfl, htA⟩ := htp.at (k := k) (p := ps[k]) (by simp [hlt])
    have nI : @Ne Nat tA s.heap.objs.size := by
      intro q
      obtain ⟨o, e, c, _⟩ := hit
      rw [q] at htA
      rw [htA] at e
      cases e
      exact absurd c (by simp)
    refine wpAny_pyNext_list_item hit (lst hal) (x := .ref tA) (by simpa using hv) fun h₁ hit₁ hs₁ => ?_
    refine wpAny_letOwnedTupleGo_listiter hit₁ ?_
    have tu : h₁.IsTuple tA #[.str ps[k].1 t1, .str ps[k].2 t2] := ⟨_, hs₁.extBut _ _ nI htA, rfl, _, rfl⟩
    refine wpAny_assign_Tuple hh tu rfl rfl fun h₂ k₂ => ?_
    have k2 : Kf h₁ h₂ := fun b o x => k₂ b o (Nat.ne_of_lt (Heap.lt_size x)) x
    have hit₂ : h₂.IsListIter s.heap.objs.size a (k + 1) := let ⟨o, e, r⟩ := hit₁; ⟨o, k2 _ _ e, r⟩
    show wpAny _ A (do holding [.str ps[k].2 t2] (assign (.Name xb pb) env (.str ps[k].1 t1)); do holding [] (assign (.Name xe pe) env (.str ps[k].2 t2)); pure ()) _ _ _
    have tn := turn _ k s' h₂ ps[k] t1 t2 (by simp [hlt]) hi hit₂ (KX.trans (KX.sb hs₁ (.head _)) (KX.kf k2))
    refine wpAny_bind (wpAny_holding (wpAny_assign_Name (wpAny_mono tn (fun _ s₂ h₂ => ?_) fun _ _ x => x.elim)))
    refine wpAny_bind (wpAny_holding (wpAny_assign_Name (wpAny_mono h₂ (fun _ s₃ h₃ => wpAny_pure ?_) fun _ _ x => x.elim)))
    refine wpAny_mono h₃ (fun f s₄ h₄ => ?_) fun _ _ x => x.elim
    cases f with
    | next => exact ⟨ps.length - (k + 1), by omega, k + 1, hlt, rfl, h₄⟩
    | cont => exact ⟨ps.length - (k + 1), by omega, k + 1, hlt, rfl, h₄⟩
    | brk => exact after _ h₄
    | ret v => exact h₄
  · obtain rfl : k = ps.length := by omega
    refine wpAny_pyNext_list_end hh hit (lst hal) (by simp [hlen]) fun h₁ he₁ => wpAny_execs_nil (after _ (last _ _ _ hi he₁))
end
/-- a list of whole numbers -/
noncomputable def NumsAt (vs : List Value) (N : Nat) (f : Nat → Int) : Prop := vs.length = N ∧ ∀ c, c < N → ∃ t, vs[c]? = some (.int (f c) t)
theorem NumsAt.set {vs : List Value} {N c : Nat} {f : Nat → Int} {x : Int} {t : Tok} (z : NumsAt vs N f) : NumsAt (vs.set c (.int x t)) N (fun d => if d = c then x else f d) := by
  refine ⟨by rw [List.length_set]; exact z.1, fun d hd => ?_⟩
  by_cases q : d = c
  · subst q
    exact ⟨t, by rw [List.getElem?_set_self (by rw [z.1]; exact hd)]; simp⟩
  · obtain ⟨u, e⟩ := z.2 d hd
    exact ⟨u, by rw [List.getElem?_set_ne (fun e => q e.symm), e]; simp [q]⟩
/-- the numbers after one run -/
noncomputable def addRun (v : Int) (f : Nat → Int) (lo hi : Nat) : Nat → Int := fun c => if lo ≤ c ∧ c < hi then f c + v else f c
noncomputable def addRuns (v : Int) (f : Nat → Int) : List (Nat × Nat) → Nat → Int
  | [] => f
  | p :: r => addRuns v (addRun v f p.1 p.2) r
theorem addRuns_snoc {v : Int} : ∀ {f : Nat → Int} {l : List (Nat × Nat)} {p : Nat × Nat}, addRuns v f (l ++ [p]) = addRun v (addRuns v f l) p.1 p.2
  | _, [], _ => rfl
  | f, _ :: l, p => addRuns_snoc (l := l)
/-- the runs of the rows, each by its line -/
noncomputable def cellsUp (letters : Str) (rows : List Str) (k : Nat) : List (Nat × Nat × Nat) := (List.range k).flatMap fun i => (runsOf letters (rows.getD i Str.empty)).reverse.map fun p => (i, p.1, p.2)
theorem placesUp_cells {letters : Str} {rows : List Str} {k : Nat} : placesUp letters rows k = (cellsUp letters rows k).map fun q => place q.1 q.2 := by
  unfold placesUp cellsUp rowPlaces
  rw [List.map_flatMap]
  congr 1
  funext i
  rw [List.map_map]
  rfl
end Mine

-- S7e
namespace Mine
open PySem PySem.W PyProof.Rows PySem.Spec PySem.Calls
theorem GT.kx {T0 : Keeps} {h h' : Heap} {S : List Addr} (g : (GT T0) h) (o : ∀ a ∈ S, Off h a) (k : KX S h h') : (GT T0) h' := (mono_GT _ _ (Kf.hide k) (g.hide o)).unhide
noncomputable def signs15 : Str := " ?pcdb-lsrwxSTt"
noncomputable def bitOf (k i : Nat) : Bool := i / 2 ^ k % 2 == 1
noncomputable def lettersF (k : Nat) : Str := Txt.join (Str.ofString "") (picks (bitOf k) signs15 15)
theorem join_ok : ∀ k, k < 4 → JoinOk (Str.ofString "") (picks (bitOf k) signs15 15) = true := by
  have : ∀ k : Fin 4, JoinOk (Str.ofString "") (picks (bitOf k.1) signs15 15) = true := by decide +kernel
  exact fun k h => this ⟨k, h⟩
theorem signs15_size : signs15.cps.size = 15 := by decide +kernel
noncomputable def cellRun (q : Nat × Nat × Nat) : Nat × Nat := (10 * q.1 + q.2.1, 10 * q.1 + q.2.2)
noncomputable def numF (rows : List Str) : Nat → Nat → Int
  | 0 => fun _ => 0
  | k + 1 => addRuns (2 ^ k) (numF rows k) ((cellsUp (lettersF k) rows rows.length).map cellRun)
theorem cellsUp_bound {letters : Str} {rows : List Str} (hr : ∀ r ∈ rows, r.cps.size = 10) : ∀ q ∈ cellsUp letters rows rows.length, q.1 < rows.length ∧ q.2.1 < q.2.2 ∧ q.2.2 ≤ 10 := by
  intro q hq
  unfold cellsUp at hq
  rw [List.mem_flatMap] at hq
  obtain ⟨i, hi, hq⟩ := hq
  rw [List.mem_range] at hi
  rw [List.mem_map] at hq
  obtain ⟨p, hp, rfl⟩ := hq
  rw [List.mem_reverse] at hp
  have hz : (rows.getD i Str.empty).cps.size = 10 := by
    have : rows.getD i Str.empty = rows[i] := by simp [List.getD, hi]
    rw [this]; exact hr _ (List.getElem_mem hi)
  have := runsK_ord (cs := (rows.getD i Str.empty).cps.toList) (ls := letters.cps.toList) ((rows.getD i Str.empty).cps.size + 1) 0 (Nat.zero_le _)
  refine ⟨hi, ?_, ?_⟩
  · have o := this.1
    unfold runsOf at hp
    revert hp o
    generalize runsK _ _ _ _ = l
    clear this
    intro hp o
    suffices h : ∀ (l : List (Nat × Nat)) (i : Nat), Ordd i l → p ∈ l → p.1 < p.2 from h l 0 o hp
    intro l
    induction l with
    | nil => intro i _ h; cases h
    | cons a r ih =>
      intro i o h
      unfold Ordd at o
      rcases List.mem_cons.mp h with rfl | h
      · exact o.2.1
      · exact ih _ o.2.2 h
  · have := this.2 p hp
    rw [Array.length_toList, hz] at this
    exact this
end Mine

-- S7f
namespace Mine
open PySem PySem.W PyProof.Rows PySem.Spec PySem.Calls
theorem Fr.ofKp {B h h' : Heap} {L : Addr} {m : Str → Option Value} (F : Fr (gh B) L h m) (k : Kp h h') : Fr (gh B) L h' m := ⟨Ns.kp F.ns k, fun b o e => k b o (F.keep b o e) (gh_get.mp e).2, F.above⟩
theorem News.ofKp {B h h' : Heap} {L : Addr} {news : List (Addr × Obj)} (N : News B L h news) (k : Kp h h') (t : ∀ p ∈ news, isTab p.2 = false) : News B L h' news := fun p hp => ⟨k _ _ (N p hp).1 (t p hp), (N p hp).2⟩
noncomputable def NoTup (h : Heap) (a : Addr) : Prop := ∀ o, h.get? a = some o → ∀ vs n, o.data = .seq vs n → o.cls ≠ .type "tuple"
theorem TupsOf.hide {h : Heap} {S : List Addr} (hS : ∀ a ∈ S, NoTup h a) : ∀ {vs : List Value} {ps : List (Str × Str)}, TupsOf h vs ps → TupsOf (hideAll h S) vs ps
  | [], [], _ => trivial
  | _ :: _, _ :: _, x => by
    refine ⟨?_, TupsOf.hide hS x.2⟩
    obtain ⟨a, t1, t2, e, g⟩ := x.1
    exact ⟨a, t1, t2, e, hideAll_get _ g fun hm => hS _ hm _ g _ _ rfl rfl⟩
theorem TupsOf.unhide {h : Heap} {S : List Addr} {vs : List Value} {ps : List (Str × Str)} (x : TupsOf (hideAll h S) vs ps) : TupsOf h vs ps := mono_tups vs ps _ _ (fun b o e => of_hideAll _ e) x
theorem NoTup.ns {h : Heap} {a : Addr} {m : Str → Option Value} (x : h.Ns a m) : NoTup h a := fun o e vs n d => by
  obtain ⟨o', es, ep, e', d', _⟩ := x
  rw [e] at e'; cases e'; rw [d] at d'; cases d'
theorem NoTup.of {h : Heap} {a : Addr} {o : Obj} (e : h.get? a = some o) (c : o.cls ≠ .type "tuple") : NoTup h a := fun o' e' _ _ _ => by rw [e] at e'; cases e'; exact c
theorem NoTup.data {h : Heap} {a : Addr} {o : Obj} (e : h.get? a = some o) (c : ∀ vs n, o.data ≠ .seq vs n) : NoTup h a := fun o' e' vs n d => by rw [e] at e'; cases e'; exact absurd d (c vs n)
theorem setItem_plain {prog : Program} {w : World} {A : Around} {E : Value → Shared → Prop} {s : Shared} {l : Addr} {vs : List Value} {cap : Nat} {k : Int} {t : Tok} {v : Value} {Q : Unit → Shared → Prop} (ho : s.heap.get? l = some ⟨.type "list", none, .seq vs.toArray cap, #[]⟩)
    (h0 : 0 ≤ k) (hfit : k < 2 ^ 63) (hn : k < vs.length)
    (hQ : ∀ h', h'.get? l = some ⟨.type "list", none, .seq (vs.set k.toNat v).toArray cap, #[]⟩ → Heap.SameBut l s.heap h' → Q () { s with heap := h' }) :
    wpAny (model prog w) A (setItem (.ref l) (.int k t) v) Q E s := by
  have T : s.TypeIs (.ref l) "list" := ⟨_, ho, rfl⟩
  have fits := fitsIndex_of h0 hfit
  clear hfit
  unfold setItem
  refine wpAny_holding (wpAny_bind (wpAny_sequenceKey T (by decide) ?_))
  refine wpAny_bind (wpAny_callSpecial?_slot T slot_list_setitem (wpAny_call_entry slot_list_setitem T entry_list_setitem ?_ (args_list_setitem _ _ _)))
  refine wpAny_bind (m := Builtin.List.listSubscript? (.int k t)) (wpAny_listSubscript_int fits ?_)
  clear fits
  obtain ⟨j, rfl⟩ := Int.eq_ofNat_of_zero_le h0
  wp_walk using wpAny_seqItemAt ho rfl, wpAny_setSeqItemAt ho rfl
  have e : vs.toArray[j]? = some (vs[j]'(by omega)) := by rw [List.getElem?_toArray]; exact List.getElem?_eq_getElem _
  rw [e]
  refine wpAny_bind (wpAny_setSeqItemAt ho rfl (wpAny_pure ⟨.none, rfl, wpAny_pure (hQ _ ?_ (.update ..))⟩))
  rw [Heap.get?_update_self _ ho rfl, Int.toNat_natCast]
  simp [Obj.mapSeq]
theorem range_fin (ci ca cb : Nat) (h1 : ci < 3) (h2 : ca < cb) (h3 : cb ≤ 10) : Builtin.Range.small ((10 * ci + ca : Nat) : Int) ((10 * ci + cb : Nat) : Int) 1 = true ∧ Builtin.Range.rangeSize ((10 * ci + ca : Nat) : Int) ((10 * ci + cb : Nat) : Int) 1 = ((cb - ca : Nat) : Int) := by
  have : ∀ ci : Fin 3, ∀ ca cb : Fin 11, ca.1 < cb.1 → Builtin.Range.small ((10 * ci.1 + ca.1 : Nat) : Int) ((10 * ci.1 + cb.1 : Nat) : Int) 1 = true ∧ Builtin.Range.rangeSize ((10 * ci.1 + ca.1 : Nat) : Int) ((10 * ci.1 + cb.1 : Nat) : Int) 1 = ((cb.1 - ca.1 : Nat) : Int) := by decide +kernel
  exact this ⟨ci, h1⟩ ⟨ca, by omega⟩ ⟨cb, by omega⟩ h2
end Mine

-- S7
namespace Mine
open PySem PySem.W PyProof.Rows PySem.Spec PySem.Calls
local macro_rules | `(tactic| walk_at "-") => Lean.Macro.throwUnsupported
local macro_rules | `(tactic| walk_at $s:str) => if ["exec For Name Call cons nil", "exec For Tuple Call cons nil", "exec For Tuple Call", "exec Assign cons ListComp", "eval ListComp", "call type:enumerate", "call type:enumerate cons nil", "call builtin:str.join", "call ref", "pyIter ref", "call type:range cons nil", "subscriptTail Name Name ref int", "setItem ref int", "call type:range"].contains s.getString then `(tactic| (refine stop_intro ?_)) else Lean.Macro.throwUnsupported
theorem bit_eq (i k : Nat) (d : Int) (hd : d = ((2 ^ k : Nat) : Int)) : (((i : Int).fdiv d).fmod 2 == 1) = bitOf k i := by
  subst hd
  unfold bitOf
  rw [Int.fdiv_eq_ediv_of_nonneg _ (Int.natCast_nonneg _), Int.fmod_eq_emod_of_nonneg _ (by decide)]
  rw [← Int.natCast_ediv, show (2 : Int) = ((2 : Nat) : Int) from rfl, ← Int.natCast_emod]
  generalize i / 2 ^ k % 2 = x
  by_cases h : x = 1
  · subst h; rfl
  · rw [beq_eq_false_iff_ne.mpr h, beq_eq_false_iff_ne]
    omega
theorem isStrIter_ascii {h h' : Heap} {a : Addr} {x : Str} {t : Tok} {i : Nat} (e : strIterType x = "str_ascii_iterator") (k : h.IsStrIter a (strIterType x) x t i) (kf : Kf h h') : h'.IsStrIter a "str_ascii_iterator" x t i := by
  rw [e] at k
  obtain ⟨o, e, r⟩ := k
  exact ⟨o, kf _ _ e, r⟩
theorem NumsAt.step {vs : List Value} {N : Nat} {f : Nat → Int} {v x : Int} {lo hi : Nat} {t : Tok} (z : NumsAt vs N (addRun v f lo hi)) (hl : lo ≤ hi) (hx : x = f hi + v) : NumsAt (vs.set hi (.int x t)) N (addRun v f lo (hi + 1)) := by
  have y := NumsAt.set (c := hi) (x := x) (t := t) z
  have e : (fun d => if d = hi then x else addRun v f lo hi d) = addRun v f lo (hi + 1) := by
    funext d
    unfold addRun
    by_cases q : d = hi
    · subst q; rw [if_pos rfl, if_pos ⟨hl, by omega⟩, hx]
    · rw [if_neg q]
      by_cases q2 : lo ≤ d ∧ d < hi
      · rw [if_pos q2, if_pos ⟨q2.1, by omega⟩]
      · rw [if_neg q2, if_neg (by omega)]
  rwa [e] at y
noncomputable abbrev namesS7 : List Str := ["numbers", "figure", "letters", "begin", "end", "line", "col", "same", "behind", "cell", "rows"]
theorem num_spec {T0 : Keeps} {w : World} {mg mb : Str → Option Value} {s : Shared} {A : Around} {Q E : Value → Shared → Prop} {rA : Addr} {rows : List Str}
    (G : Gd w mg mb s.heap) (gt : (GT T0) s.heap) (rm : Rm A 310 200) (sa : StrsAt s.heap rA rows) (hl : rows.length ≤ 3) (hr : ∀ r ∈ rows, r.cps.size = 10)
    (hq : ∀ a h' tk, Kp s.heap h' → (GT T0) h' → s.heap.objs.size ≤ a → (∃ vs cap, h'.get? a = some ⟨.type "list", none, .seq vs.toArray cap, #[]⟩ ∧ NumsAt vs (10 * rows.length) (numF rows 4)) → Q (.ref a) (Sh s h' tk)) :
    wpAny (model PG w) A (call (.ref 94) [.ref rA]) Q E s := by
  have : PySem.Challenge.rw_mr0153_01.Holds → (hd.heap_39 w.params).In s.heap → True := by (k_fill; intros; trivial)
  clear this
  refine rm.any ?_
  refine' enterC (x := "figure") (binds := [("rows", .ref rA)]) (Bs.gh s.heap) G.nolimit (G.inH _ _ ?k1) (codeRec_of G.inH ?k2) ?k3 ?k4 ?k5 ?kc ?_ ?k7 ?k8 ?k9
  case k1 => k_is
  case k2 => k_is
  case k3 => decide
  case k4 => exact BindsTo.of_eq rfl
  case k5 => exact locs rfl
  case kc => exact fun n => rfl
  case k7 => rfl
  case k8 => rfl
  case k9 => rfl
  intro L h₁ oc F N dc hL kf
  have X := G.X
  obtain ⟨lo, mn, TP⟩ := G.T
  obtain ⟨rv, rn, er, hrl, hrv⟩ := sa
  have erg : (gh s.heap).get? rA = some ⟨.type "list", none, .seq rv.toArray rn, #[]⟩ := gh_get.mpr ⟨er, rfl⟩
  k_steps
  refine Stop.go ?_
  refine comp_assign (cl := []) ?c1 ?c2 ?c3 ?c4 ?c5 ?c6 ?c7 ?_
  case c1 => with_unfolding_all rfl
  case c2 => rfl
  case c3 => decide
  case c4 => rfl
  case c5 => decide
  case c6 => rfl
  case c7 => intro _; rfl
  k_steps
  refine Stop.go (wpAny_pyIter_list (l := rA) (items := rv.toArray) ⟨_, F.keep _ _ erg, rfl, _, rfl⟩ ?_)
  have lrA : @LT.lt Nat _ rA s.heap.objs.size := Heap.lt_size er
  have lh₁ : @LE.le Nat _ s.heap.objs.size h₁.objs.size := Nat.le_of_lt (Nat.lt_of_le_of_lt hL F.ns.lt)
  have lLh : @LT.lt Nat _ L h₁.objs.size := F.ns.lt
  refine ⟨fun h' k Q E q => wpAny_pyIter_listiter (l := rA) (i := 0) ⟨_, k _ _ (Heap.get?_push_size _ rfl), rfl, rfl⟩ q, ?_⟩
  intro D C h₂ hDs hDC k₂ hD hC tk₂
  rw [show (h₁.push { cls := Value.type "list_iterator", data := Data.fields #[Value.ref rA, Value.int 0 0] }).objs.size = h₁.objs.size + 1 from Heap.size_push ..] at hDs
  have lD : @LT.lt Nat _ h₁.objs.size D := hDs
  have gnone : ∀ b, @LE.le Nat _ s.heap.objs.size b → (gh s.heap).get? b = none := fun b hb => by
    cases q : (gh s.heap).get? b with
    | none => rfl
    | some o => exact absurd (Heap.lt_size (gh_get.mp q).1) (Nat.not_lt.mpr hb)
  have k₁₂ : Kf h₁ h₂ := fun b o e => k₂ _ _ (Heap.get?_push_of_some _ e)
  refine zeros_outer (I := h₁.objs.size) (rA := rA) (vs := rv.toArray) rfl rfl rfl rfl (fun _ => rfl) ⟨_, k₁₂ _ _ (F.keep _ _ erg), rfl, _, rfl⟩ (by simpa [hrl] using hl)
    ⟨_, k₂ _ _ (Heap.get?_push_size _ rfl), rfl, rfl⟩ ⟨_, hD⟩ hC (Nat.ne_of_lt (Nat.lt_trans lD hDC)) (Nat.ne_of_lt lD) (Nat.ne_of_gt hDC) ?n4 ?hev ?_
  case n4 =>
    intro hm
    have l1 : @LT.lt Nat _ rA h₁.objs.size := Nat.lt_of_lt_of_le lrA lh₁
    rcases List.mem_cons.mp hm with q | hm
    · exact Nat.ne_of_lt l1 q
    rcases List.mem_cons.mp hm with q | hm
    · exact Nat.ne_of_lt (Nat.lt_trans l1 (Nat.lt_trans lD hDC)) q
    · exact Nat.ne_of_lt (Nat.lt_trans l1 lD) (List.mem_singleton.mp hm)
  case hev =>
    intro h₃ tk₃ m₃ kx₃ c₃ Q' E' q'
    have F₃ : Fr (gh s.heap) C h₃ m₃ := by
      refine ⟨c₃, fun b o e => kx₃ b o (fun hm => ?_) (k₁₂ _ _ (F.keep _ _ e)), ?_⟩
      · have lb : @LT.lt Nat _ b s.heap.objs.size := Heap.lt_size (gh_get.mp e).1
        have l1 : @LT.lt Nat _ b h₁.objs.size := Nat.lt_of_lt_of_le lb lh₁
        rcases List.mem_cons.mp hm with q | hm
        · exact Nat.ne_of_lt l1 q
        rcases List.mem_cons.mp hm with q | hm
        · exact Nat.ne_of_lt (Nat.lt_trans l1 (Nat.lt_trans lD hDC)) q
        · exact Nat.ne_of_lt (Nat.lt_trans l1 lD) (List.mem_singleton.mp hm)
      · exact Nat.le_trans F.above (Nat.le_of_lt (Nat.lt_trans lLh (Nat.lt_trans lD hDC)))
    have N₃ : News (gh s.heap) C h₃ [] := News.nil
    clear F N
    k_steps
    refine Stop.go (range1_rows F₃ N₃ ?_)
    intro h₄ tk₄ t₄ u₄ v₄ hr₄ _ _ k₄
    exact q' _ h₄ _ _ _ _ k₄ hr₄
  intro h₃ tk₃ ys m₃ kx₃ hz hD₃ hC₃
  refine ⟨_, rfl, ?_⟩
  dsimp only [Sh] at kx₃ ⊢
  have nL : L ∉ [h₁.objs.size, C, D] := fun hm => by
    rcases List.mem_cons.mp hm with q | hm
    · exact Nat.ne_of_lt lLh q
    rcases List.mem_cons.mp hm with q | hm
    · exact Nat.ne_of_lt (Nat.lt_trans lLh (Nat.lt_trans lD hDC)) q
    · exact Nat.ne_of_lt (Nat.lt_trans lLh lD) (List.mem_singleton.mp hm)
  have lL1 : @LT.lt Nat _ (L + 1) h₁.objs.size := Heap.lt_size (N _ (.head _)).1
  have nL1 : L + 1 ∉ [h₁.objs.size, C, D] := fun hm => by
    rcases List.mem_cons.mp hm with q | hm
    · exact Nat.ne_of_lt lL1 q
    rcases List.mem_cons.mp hm with q | hm
    · exact Nat.ne_of_lt (Nat.lt_trans lL1 (Nat.lt_trans lD hDC)) q
    · exact Nat.ne_of_lt (Nat.lt_trans lL1 lD) (List.mem_singleton.mp hm)
  have hb : ∀ b o, (gh s.heap).get? b = some o → h₃.get? b = some o := fun b o e => kx₃ b o (fun hm => by
    have lb : @LT.lt Nat _ b s.heap.objs.size := Heap.lt_size (gh_get.mp e).1
    have l1 : @LT.lt Nat _ b h₁.objs.size := Nat.lt_of_lt_of_le lb lh₁
    rcases List.mem_cons.mp hm with q | hm
    · exact Nat.ne_of_lt l1 q
    rcases List.mem_cons.mp hm with q | hm
    · exact Nat.ne_of_lt (Nat.lt_trans l1 (Nat.lt_trans lD hDC)) q
    · exact Nat.ne_of_lt (Nat.lt_trans l1 lD) (List.mem_singleton.mp hm)) (k₁₂ _ _ (F.keep _ _ e))
  have F₃ : Fr (gh s.heap) L h₃ _ := ⟨F.ns.at' fun o e => kx₃ _ _ nL (k₁₂ _ _ e), hb, F.above⟩
  have gt₃ : (GT T0) h₃ := GT.kx (mono_GT _ _ (fun b o e => k₁₂ _ _ (kf _ _ e)) gt) (fun a ha => by
    rcases List.mem_cons.mp ha with rfl | ha
    · exact ⟨_, k₂ _ _ (Heap.get?_push_size _ rfl), rfl, fun _ q => absurd q (by simp)⟩
    rcases List.mem_cons.mp ha with rfl | ha
    · exact Off.ns hC
    · rw [List.mem_singleton.mp ha]; exact Off.list hD) kx₃
  refine wpAny_assign_Name (wpAny_storeName_local rfl F₃.ns (fun h₄ n₄ s₄ => ?_) rfl)
  have hCL : @Ne Nat C L := Nat.ne_of_gt (Nat.lt_trans lLh (Nat.lt_trans lD hDC))
  have hDL : @Ne Nat D L := Nat.ne_of_gt (Nat.lt_trans lLh lD)
  have F₄ : Fr (gh s.heap) L h₄ _ := ⟨n₄, fun b o e => s₄.extBut b o (fun q => by rw [q, Heap.get?_none_of_le F.above] at e; cases e) (F₃.keep b o e), F₃.above⟩
  refine ⟨m₃, hC₃.sameBut s₄ hCL, fun h₅ s₅ => ?_⟩
  have F₅ := F₄.change s₅ hCL (gnone C (Nat.le_trans lh₁ (Nat.le_of_lt (Nat.lt_trans lD hDC))))
  obtain ⟨cap, eD⟩ := hD₃
  have N₅ : News (gh s.heap) L h₅ [(D, ⟨.type "list", none, .seq ys cap, #[]⟩), (L + 1, oc)] := by
    intro p hp
    rcases List.mem_cons.mp hp with rfl | hp
    · exact ⟨s₅.extBut _ _ (Nat.ne_of_lt hDC) (s₄.extBut _ _ hDL eD), hDL, gnone D (Nat.le_trans lh₁ (Nat.le_of_lt lD))⟩
    rcases List.mem_cons.mp hp with rfl | hp
    · have n := N _ (.head _)
      exact ⟨s₅.extBut _ _ (Nat.ne_of_lt (Nat.lt_trans lL1 (Nat.lt_trans lD hDC))) (s₄.extBut _ _ n.2.1 (kx₃ _ _ nL1 (k₁₂ _ _ n.1))), n.2⟩
    · cases hp
  have gt₅ : (GT T0) h₅ := GT.kx gt₃ (S := [L, C]) (fun a ha => by
    rcases List.mem_cons.mp ha with rfl | ha
    · exact Off.ns F₃.ns
    · rw [List.mem_singleton.mp ha]; exact Off.ns hC₃) (KX.trans (KX.sb s₄ (.head _)) (KX.sb s₅ (.tail _ (.head _))))
  have hrsz : rv.toArray.size = rows.length := by rw [List.size_toArray]; exact hrl
  have nz : NumsAt ys.toList (10 * rows.length) (numF rows 0) := by
    refine ⟨by rw [Array.length_toList, hz.1, hrsz], fun c hc => ?_⟩
    have hc' : c < ys.toList.length := by rw [Array.length_toList, hz.1, hrsz]; exact hc
    obtain ⟨t, e⟩ := hz.2 ys.toList[c] (List.getElem_mem hc')
    exact ⟨t, by rw [List.getElem?_eq_getElem hc', e]; rfl⟩
  clear F N F₃ F₄ kx₃ hC₃ n₄ s₄ s₅ hb nL nL1 hD hC k₂ k₁₂ gt₃ hz
  simp only [lookup_lkO, List.reverse_cons, List.reverse_nil, List.nil_append, List.map_cons, List.map_nil, set_lkO] at F₅
  k_steps
  refine Stop.go (wpAny_For ?_)
  k_steps
  refine Stop.go (range1_rows F₅ N₅ ?_)
  intro h₆ tk₆ t₆ u₆ v₆ hr₆ F₆ N₆ k₆
  have gt₆ := mono_GT _ _ k₆ gt₅
  clear F₅ N₅ gt₅
  have hDn := (N₆ _ (.head _)).2
  refine letter3 (fun (it : Addr) (k : Nat) (s' : Shared) (QQ : Prop) => ∀ (h' : Heap) (tk : Nat) (vs : List Value) (cap : Nat) (oc : Obj) (cv ol ob oe oli oco osa obe oce : Option Value), s' = Sh s h' tk → (Fr (gh s.heap) L h' fun y => lkO [("numbers", some (.ref D)), ("rows", some (.ref rA)), ("letters", ol), ("begin", ob), ("end", oe), ("line", oli), ("col", oco), ("same", osa), ("behind", obe), ("cell", oce)] y) → News (gh s.heap) L h' [(D, ⟨.type "list", none, .seq vs.toArray cap, #[]⟩), (L + 1, oc)] → oc.data = .cell cv → (GT T0) h' → NumsAt vs (10 * rows.length) (numF rows k) → IsRangeIter h' it (0 + k) ((4 : Nat) - k) 1 → @Ne Nat it L → @Ne Nat it D → @Ne Nat it (L + 1) → (gh s.heap).get? it = none → QQ) ?_
  intro I1 mkI1 unI1
  refine letter1 (fun (s' : Shared) (QQ : Prop) => ∀ (h' : Heap) (tk : Nat) (vs : List Value) (cap : Nat) (ol ob oe oli oco osa obe oce : Option Value), s' = Sh s h' tk → (Fr (gh s.heap) L h' fun y => lkO [("numbers", some (.ref D)), ("rows", some (.ref rA)), ("letters", ol), ("begin", ob), ("end", oe), ("line", oli), ("col", oco), ("same", osa), ("behind", obe), ("cell", oce)] y) → h'.get? D = some ⟨.type "list", none, .seq vs.toArray cap, #[]⟩ → (GT T0) h' → NumsAt vs (10 * rows.length) (numF rows 4) → QQ) ?_
  intro R1 mkR1 unR1
  refine Stop.go (for_range (n := 4) rfl hr₆ (by decide) (by decide)
    I1
    R1 ?_ ?_ ?_ ?_ ?_)
  · rintro it h' rfl k' hit
    have nx := fun {b : Addr} {o : Obj} (e : h₆.get? b = some o) => (Nat.ne_of_gt (Heap.lt_size e) : @Ne Nat h₆.objs.size b)
    have eD6 := (N₆ _ (.head _)).1
    refine mkI1 _ _ _ fun QQ qq => qq h' _ ys.toList cap oc _ none none none none none none none none rfl (Fr.mapA namesS7 (keepsF F₆ k') rfl rfl (by repeat' (first | exact True.intro | refine And.intro rfl ?_))) (fun p hp => ⟨k' _ _ (N₆ p (by simpa using hp)).1, (N₆ p (by simpa using hp)).2⟩) dc (mono_GT _ _ k' gt₆) nz (by simpa using hit) ?_ (nx eD6) (nx (N₆ _ (.tail _ (.head _))).1) ?_
    · obtain ⟨o, _, _, e, _⟩ := F₆.ns
      exact nx e
    · exact Heap.get?_none_of_le (Nat.le_trans F₆.above (Nat.le_of_lt F₆.ns.lt))
  · intro it k s' hx
    refine unI1 _ _ _ _ hx ?_
    clear hx
    rintro h' tk vs cap oc cv ol ob oe oli oco osa obe oce rfl F N dc g nn hit _ _ _ _
    exact hit
  · intro it k s' h₇ hk hx hit₇ sb₇
    refine unI1 _ _ _ _ hx ?_
    clear hx
    rintro h' tk vs cap oc cv ol ob oe oli oco osa obe oce rfl F N dc g nn hit i1 i2 i3 i4
    have cel : h₇.IsCell (L + 1) cv := ⟨oc, sb₇.extBut _ _ (Ne.symm i3) (N _ (.tail _ (.head _))).1, dc⟩
    refine wpAny_storeName_cell rfl rfl rfl cel fun h₈ c₈ sb₈ => ?_
    obtain ⟨oc8, eo8, d8⟩ := c₈
    have L1 : @Ne Nat (L + 1) L := (N _ (.tail _ (.head _))).2.1
    have DL1 : @Ne Nat D (L + 1) := by
      intro q
      have e1 := (N _ (.head _)).1
      have e2 := (N _ (.tail _ (.head _))).1
      dsimp only at e1 e2
      rw [q, e2] at e1
      cases e1
      cases dc
    have kx8 : KX [it, L + 1] h' h₈ := KX.trans (KX.sb sb₇ (.head _)) (KX.sb sb₈ (.tail _ (.head _)))
    have ni : ∀ b : Nat, b ≠ it → b ≠ L + 1 → b ∉ [it, L + 1] := fun b a1 a2 hm => by
      rcases List.mem_cons.mp hm with q | hm
      · exact a1 q
      · exact a2 (List.mem_singleton.mp hm)
    have F₈ : Fr (gh s.heap) L h₈ _ := ⟨F.ns.at' fun o e => kx8 _ _ (ni _ (Ne.symm i1) (Ne.symm L1)) e, fun b o e => kx8 _ _ (ni _ (fun q => by rw [q, i4] at e; cases e) (fun q => by rw [q, (N _ (.tail _ (.head _))).2.2] at e; cases e)) (F.keep _ _ e), F.above⟩
    obtain ⟨fs, hfs, hback⟩ : ∃ fs, h₈.get? it = some ⟨.type "range_iterator", none, .fields fs, #[]⟩ ∧ ∀ H : Heap, H.get? it = some ⟨.type "range_iterator", none, .fields fs, #[]⟩ → IsRangeIter H it (0 + ((k + 1 : Nat) : Int)) ((4 : Nat) - ((k + 1 : Nat) : Int)) 1 := ⟨_, sb₈.extBut _ _ i3 hit₇, fun H e => e⟩
    have N₈ : News (gh s.heap) L h₈ [(D, ⟨.type "list", none, .seq vs.toArray cap, #[]⟩), (L + 1, oc8), (it, ⟨.type "range_iterator", none, .fields fs, #[]⟩)] := by
      intro p hp
      rcases List.mem_cons.mp hp with rfl | hp
      · exact ⟨kx8 _ _ (ni _ (Ne.symm i2) DL1) (N _ (.head _)).1, (N _ (.head _)).2⟩
      rcases List.mem_cons.mp hp with rfl | hp
      · exact ⟨eo8, (N _ (.tail _ (.head _))).2⟩
      rcases List.mem_cons.mp hp with rfl | hp
      · exact ⟨hfs, i1, i4⟩
      · cases hp
    have gt8 : (GT T0) h₈ := GT.kx g (S := [it, L + 1]) (fun a ha => by
      rcases List.mem_cons.mp ha with rfl | ha
      · exact ⟨_, hit, rfl, fun _ q => absurd q (by simp)⟩
      · rw [List.mem_singleton.mp ha]; exact ⟨_, (N _ (.tail _ (.head _))).1, by unfold isTab; rw [dc]; cases oc.cls <;> rfl, fun _ _ q => by rw [dc] at q; cases q⟩) kx8
    clear F N g kx8 ni cel sb₇ sb₈ hit hit₇
    dsimp only [Sh]
    k_steps
    refine Stop.go ?_
    refine comp_eval (cl := [("figure", L + 1)]) ?c2 ?c3 ?c4 ?c5 ?c6 ?c7 ?_
    case c2 => rfl
    case c3 => decide
    case c4 => rfl
    case c5 => decide
    case c6 => rfl
    case c7 => intro _; rfl
    k_steps
    refine Stop.go (call_enumerate_str ?_)
    intro h₉ en₉ si₉ sz₉ k₉
    have F₉ := keepsF F₈ k₉
    have N₉ : News (gh s.heap) L h₉ [(D, ⟨.type "list", none, .seq vs.toArray cap, #[]⟩), (L + 1, oc8), (it, ⟨.type "range_iterator", none, .fields fs, #[]⟩)] := fun p hp => ⟨k₉ _ _ (N₈ p hp).1, (N₈ p hp).2⟩
    have gt9 : (GT T0) h₉ := mono_GT _ _ k₉ gt8
    have bL : @LT.lt Nat _ L h₈.objs.size := F₈.ns.lt
    have bD : @LT.lt Nat _ D h₈.objs.size := Heap.lt_size (N₈ _ (.head _)).1
    have bL1 : @LT.lt Nat _ (L + 1) h₈.objs.size := Heap.lt_size (N₈ _ (.tail _ (.head _))).1
    have bit : @LT.lt Nat _ it h₈.objs.size := Heap.lt_size (N₈ _ (.tail _ (.tail _ (.head _)))).1
    clear F₈ N₈ gt8
    k_steps
    refine Stop.go (wpAny_pyIter_enum en₉ ?_)
    refine ⟨fun H kH Q' E' q' => wpAny_pyIter_enum (kH _ _ en₉) q', ?_⟩
    intro D' C' hA hDs' hDC' kA hD' hC' tkA
    have hty : strIterType signs15 = "str_ascii_iterator" := by decide +kernel
    have si := isStrIter_ascii hty si₉ kA
    dsimp only at hDs' sz₉ en₉ si si₉
    generalize hz8 : h₈.objs.size = z8 at *
    rw [sz₉] at hDs'
    have lz : @LE.le Nat _ s.heap.objs.size z8 := Nat.le_of_lt (Nat.lt_of_le_of_lt hL bL)
    have outs : ∀ b : Nat, b < z8 → b ∉ [z8 + 1, z8, C', D'] := fun b hb hm => by
      have hDs2 : z8 + 2 ≤ D' := hDs'
      have hDC2 : @LT.lt Nat _ D' C' := hDC'
      rcases List.mem_cons.mp hm with q | hm
      · omega
      rcases List.mem_cons.mp hm with q | hm
      · omega
      rcases List.mem_cons.mp hm with q | hm
      · have : @Eq Nat b C' := q; omega
      · have : @Eq Nat b D' := List.mem_singleton.mp hm; omega
    have n' : ∀ a b : Nat, a < b → a ≠ b := fun _ _ h => Nat.ne_of_lt h
    refine letters_loop (S := signs15) (bitOf k) rfl rfl rfl rfl (by decide) (by decide) (kA _ _ en₉) si ⟨_, hD'⟩ hC' (Nat.ne_of_gt (Nat.lt_succ_self _)) (n' _ _ (Nat.lt_of_lt_of_le (Nat.lt_of_lt_of_le (Nat.lt_succ_self _) hDs') (Nat.le_of_lt hDC'))) (n' _ _ (Nat.lt_of_lt_of_le (Nat.lt_succ_self _) hDs'))
      (n' _ _ (Nat.lt_trans (Nat.lt_of_lt_of_le (Nat.lt_succ_of_lt (Nat.lt_succ_self _)) hDs') hDC')) (n' _ _ (Nat.lt_of_lt_of_le (Nat.lt_succ_of_lt (Nat.lt_succ_self _)) hDs')) (Nat.ne_of_gt hDC') ?t1 ?t2 ?_
    case t1 =>
      intro i H tkH mH u hi kxH nsH hmH Q' E' q'
      dsimp only [Sh] at kxH ⊢
      have FC : Fr (gh s.heap) C' H (fun y => if y = Str.ofString "k" then some (.int (i : Nat) u) else mH y) := by
        refine ⟨?_, fun b o e => ?_, ?_⟩
        · have : (fun y => if y = Str.ofString "k" then some (Value.int (i : Nat) u) else mH y) = mH := by
            funext y
            by_cases q : y = Str.ofString "k"
            · rw [if_pos q, q]; exact hmH.symm
            · rw [if_neg q]
          rw [this]; exact nsH
        · exact kxH _ _ (outs _ (Nat.lt_of_lt_of_le (Heap.lt_size (gh_get.mp e).1) lz)) (kA _ _ (F₉.keep _ _ e))
        · exact Nat.le_trans F₉.above (Nat.le_of_lt (Nat.lt_trans bL (Nat.lt_trans (Nat.lt_of_lt_of_le (Nat.lt_succ_of_lt (Nat.lt_succ_self _)) hDs') hDC')))
      have NC : News (gh s.heap) C' H [(L + 1, oc8)] := by
        intro p hp
        rw [List.mem_singleton.mp hp]
        have n := N₉ _ (.tail _ (.head _))
        exact ⟨kxH _ _ (outs _ bL1) (kA _ _ n.1), n' _ _ (Nat.lt_trans bL1 (Nat.lt_trans (Nat.lt_of_lt_of_le (Nat.lt_succ_of_lt (Nat.lt_succ_self _)) hDs') hDC')), n.2.2⟩
      clear F₉ N₉ hmH nsH
      have h4 : ∀ m : Fin 4, m.val = 0 ∨ m.val = 1 ∨ m.val = 2 ∨ m.val = 3 := by decide +kernel
      rcases h4 ⟨k, hk⟩ with e | e | e | e <;> (change k = _ at e; subst e; clear h4)
      · k_steps; (try (any_goals (first | exact (0 : Nat) | exact Str.empty | exact Value.none | exact ([] : List (Str × Addr))))); rw [bit_eq _ 0 _ (by decide)]; (rename ∀ (h'' : Heap) (tk' : Nat), _ => q9); exact q9 _ _ (fun _ _ e => e)
      · k_steps; (try (any_goals (first | exact (0 : Nat) | exact Str.empty | exact Value.none | exact ([] : List (Str × Addr))))); rw [bit_eq _ 1 _ (by decide)]; (rename ∀ (h'' : Heap) (tk' : Nat), _ => q9); exact q9 _ _ (fun _ _ e => e)
      · k_steps; (try (any_goals (first | exact (0 : Nat) | exact Str.empty | exact Value.none | exact ([] : List (Str × Addr))))); rw [bit_eq _ 2 _ (by decide)]; (rename ∀ (h'' : Heap) (tk' : Nat), _ => q9); exact q9 _ _ (fun _ _ e => e)
      · k_steps; (try (any_goals (first | exact (0 : Nat) | exact Str.empty | exact Value.none | exact ([] : List (Str × Addr))))); rw [bit_eq _ 3 _ (by decide)]; (rename ∀ (h'' : Heap) (tk' : Nat), _ => q9); exact q9 _ _ (fun _ _ e => e)
    case t2 =>
      intro H tkH mH v kxH nsH hmH Q' E' q'
      dsimp only [Sh] at kxH ⊢
      have FC : Fr (gh s.heap) C' H (fun y => if y = Str.ofString "sign" then some v else mH y) := by
        refine ⟨?_, fun b o e => ?_, ?_⟩
        · have : (fun y => if y = Str.ofString "sign" then some v else mH y) = mH := by
            funext y
            by_cases q : y = Str.ofString "sign"
            · rw [if_pos q, q]; exact hmH.symm
            · rw [if_neg q]
          rw [this]; exact nsH
        · exact kxH _ _ (outs _ (Nat.lt_of_lt_of_le (Heap.lt_size (gh_get.mp e).1) lz)) (kA _ _ (F₉.keep _ _ e))
        · exact Nat.le_trans F₉.above (Nat.le_of_lt (Nat.lt_trans bL (Nat.lt_trans (Nat.lt_of_lt_of_le (Nat.lt_succ_of_lt (Nat.lt_succ_self _)) hDs') hDC')))
      have NC : News (gh s.heap) C' H [] := News.nil
      clear F₉ N₉ hmH nsH
      k_steps
      any_goals (first | exact (0 : Nat) | exact Str.empty | exact Value.none | exact ([] : List (Str × Addr)))
      exact q'
    intro H tkH mH l kxH hDl hl' nsH
    refine ⟨_, rfl, mH, nsH, fun hB sbB => ?_⟩
    dsimp only [Sh] at kxH sbB ⊢
    have lzD : @LT.lt Nat _ z8 D' := Nat.lt_of_lt_of_le (Nat.lt_succ_of_lt (Nat.lt_succ_self _)) hDs'
    have kAll : ∀ b o, @LT.lt Nat _ b z8 → h₉.get? b = some o → hB.get? b = some o := fun b o hb e => sbB.extBut _ _ (n' _ _ (Nat.lt_trans hb (Nat.lt_trans lzD hDC'))) (kxH _ _ (outs _ hb) (kA _ _ e))
    have FB : Fr (gh s.heap) L hB _ := ⟨F₉.ns.at' fun o e => kAll _ _ bL e, fun b o e => kAll _ _ (Nat.lt_of_lt_of_le (Heap.lt_size (gh_get.mp e).1) lz) (F₉.keep _ _ e), F₉.above⟩
    have NB : News (gh s.heap) L hB [(D, ⟨.type "list", none, .seq vs.toArray cap, #[]⟩), (L + 1, oc8), (it, ⟨.type "range_iterator", none, .fields fs, #[]⟩)] := by
      intro p hp
      refine ⟨kAll _ _ ?_ (N₉ p hp).1, (N₉ p hp).2⟩
      rcases List.mem_cons.mp hp with rfl | hp
      · exact bD
      rcases List.mem_cons.mp hp with rfl | hp
      · exact bL1
      rcases List.mem_cons.mp hp with rfl | hp
      · exact bit
      · cases hp
    have gtB : (GT T0) hB := by
      refine GT.kx (S := [C']) (GT.kx (S := [z8 + 1, z8, C', D']) (mono_GT _ _ kA gt9) (fun a ha => ?_) kxH) (fun a ha => ?_) (KX.sb sbB (.head _))
      · rcases List.mem_cons.mp ha with rfl | ha
        · exact ⟨_, kA _ _ en₉, rfl, fun _ q => absurd q (by simp)⟩
        rcases List.mem_cons.mp ha with rfl | ha
        · obtain ⟨o, e, c, dd⟩ := si
          exact ⟨o, e, by unfold isTab; rw [c, dd], fun _ q => absurd (c.symm.trans q) (by simp)⟩
        rcases List.mem_cons.mp ha with rfl | ha
        · exact Off.ns hC'
        · rw [List.mem_singleton.mp ha]; exact Off.list hD'
      · rw [List.mem_singleton.mp ha]; exact Off.ns nsH
    have hDB : hB.IsList D' (strValues l).toArray := by
      obtain ⟨q, e⟩ := hDl
      exact ⟨_, sbB.extBut _ _ (n' _ _ hDC') e, rfl, _, rfl⟩
    clear F₉ N₉ gt9
    rw [signs15_size] at hl'
    k_steps
    refine Stop.go (SC.join hDB hl' (join_ok k hk) fun tJ kJ => ?_)
    have offB : ∀ {H : Heap} {m : Str → Option Value} {vs : List Value} {cap : Nat}, Fr (gh s.heap) L H m → News (gh s.heap) L H [(D, ⟨.type "list", none, .seq vs.toArray cap, #[]⟩), (L + 1, oc8), (it, ⟨.type "range_iterator", none, .fields fs, #[]⟩)] → ∀ a ∈ [L, D, L + 1, it], Off H a := fun F N a ha => by
      rcases List.mem_cons.mp ha with rfl | ha
      · exact Off.ns F.ns
      rcases List.mem_cons.mp ha with rfl | ha
      · exact Off.list (N _ (.head _)).1
      rcases List.mem_cons.mp ha with rfl | ha
      · exact ⟨_, (N _ (.tail _ (.head _))).1, by unfold isTab; rw [d8]; cases oc8.cls <;> rfl, fun _ _ q => by rw [d8] at q; cases q⟩
      · rw [List.mem_singleton.mp ha]; exact ⟨_, (N _ (.tail _ (.tail _ (.head _)))).1, rfl, fun _ q => absurd q (by simp)⟩
    obtain ⟨J, hJ⟩ : ∃ J, J = (GT T0) := ⟨_, rfl⟩
    have hm : Mono J := hJ ▸ mono_GT
    have j : J (hideAll hB (L :: [D, L + 1, it])) := by rw [hJ]; exact gtB.hide (offB FB NB)
    k_steps
    refine Stop.go (wpAny_For ?_)
    k_steps
    rename Fr _ _ _ _ => FC
    rename News _ _ _ _ => NC
    rename J (hideAll _ _) => jC
    rename_i hCC
    rw [hJ] at jC
    have gtC : (GT T0) _ := jC.unhide
    clear hm jC hJ
    have sa' : StrsAt _ rA rows := ⟨rv, rn, FC.keep _ _ erg, hrl, hrv⟩
    refine Stop.go (places_spec (rows := rows) (G.kp (Fr.kp FC)) gtC (Rm.deeper (by decide) (by decide)) sa' hl hr ?_)
    intro pa hE tkE kpE gtE lpa pl
    have ocT : isTab oc8 = false := by unfold isTab; rw [d8]; cases oc8.cls <;> rfl
    have FE := Fr.ofKp FC kpE
    have NE := News.ofKp NC kpE (fun p hp => by
      rcases List.mem_cons.mp hp with rfl | hp
      · rfl
      rcases List.mem_cons.mp hp with rfl | hp
      · exact ocT
      rcases List.mem_cons.mp hp with rfl | hp
      · rfl
      · cases hp)
    simp only [set_lkO] at FE
    obtain ⟨pvs, pn, epa, tps⟩ := pl
    dsimp only [Sh] at lpa ⊢
    have npa : ∀ {b : Addr} {o : Obj}, hCC.get? b = some o → @Ne Nat pa b := fun e => Nat.ne_of_gt (Nat.lt_of_lt_of_le (Heap.lt_size e) lpa)
    have paL : @Ne Nat pa L := by obtain ⟨o, _, _, e, _⟩ := FC.ns; exact npa e
    have paD : @Ne Nat pa D := npa (NC _ (.head _)).1
    have paC : @Ne Nat pa (L + 1) := npa (NC _ (.tail _ (.head _))).1
    have pai : @Ne Nat pa it := npa (NC _ (.tail _ (.tail _ (.head _)))).1
    have pag : (gh s.heap).get? pa = none := by
      cases q : (gh s.heap).get? pa with
      | none => rfl
      | some o => exact absurd rfl (npa (FC.keep _ _ q))
    clear FC NC gtC sa' kpE npa
    have hcell : ∀ q p, (placesUp (lettersF k) rows rows.length)[q]? = some p → ∃ c : Nat × Nat × Nat, (cellsUp (lettersF k) rows rows.length)[q]? = some c ∧ p = place c.1 c.2 := fun q p e => by
      rw [placesUp_cells, List.getElem?_map] at e
      cases e2 : (cellsUp (lettersF k) rows rows.length)[q]? with
      | none => rw [e2] at e; cases e
      | some c => rw [e2] at e; exact ⟨c, by first | rfl | exact e2, (Option.some.inj e).symm⟩
    refine letter3 (fun (ip : Addr) (q : Nat) (s' : Shared) (QQ : Prop) => ∀ (h' : Heap) (tk : Nat) (vs : List Value) (cap : Nat) (oi : Obj) (ob oe oli oco osa obe oce : Option Value), s' = Sh s h' tk → (Fr (gh s.heap) L h' fun y => lkO [("numbers", some (.ref D)), ("rows", some (.ref rA)), ("letters", some (.str (lettersF k) tJ)), ("begin", ob), ("end", oe), ("line", oli), ("col", oco), ("same", osa), ("behind", obe), ("cell", oce)] y) → News (gh s.heap) L h' [(D, ⟨.type "list", none, .seq vs.toArray cap, #[]⟩), (L + 1, oc8), (it, ⟨.type "range_iterator", none, .fields fs, #[]⟩), (ip, oi)] → (GT T0) h' → NumsAt vs (10 * rows.length) (addRuns (2 ^ k) (numF rows k) (((cellsUp (lettersF k) rows rows.length).take q).map cellRun)) → h'.IsListIter ip pa q → h'.get? pa = some ⟨.type "list", none, .seq pvs.toArray pn, #[]⟩ → TupsOf h' pvs (placesUp (lettersF k) rows rows.length) → @Ne Nat ip L → @Ne Nat ip D → @Ne Nat ip (L + 1) → @Ne Nat ip it → @Ne Nat ip pa → QQ) ?_
    intro I2 mkI2 unI2
    refine letter1 (fun (s' : Shared) (QQ : Prop) => ∀ (h' : Heap) (tk : Nat) (vs : List Value) (cap : Nat) (ob oe oli oco osa obe oce : Option Value), s' = Sh s h' tk → (Fr (gh s.heap) L h' fun y => lkO [("numbers", some (.ref D)), ("rows", some (.ref rA)), ("letters", some (.str (lettersF k) tJ)), ("begin", ob), ("end", oe), ("line", oli), ("col", oco), ("same", osa), ("behind", obe), ("cell", oce)] y) → News (gh s.heap) L h' [(D, ⟨.type "list", none, .seq vs.toArray cap, #[]⟩), (L + 1, oc8), (it, ⟨.type "range_iterator", none, .fields fs, #[]⟩)] → (GT T0) h' → NumsAt vs (10 * rows.length) (numF rows (k + 1)) → QQ) ?_
    intro R2 mkR2 unR2
    refine for_pairs rfl epa tps
      I2
      R2 ?_ ?_ ?_ ?_ ?_
    · rintro ip h' rfl kE hip
      dsimp only at hip
      have nx := fun {b : Addr} {o : Obj} (e : hE.get? b = some o) => (Nat.ne_of_gt (Heap.lt_size e) : @Ne Nat hE.objs.size b)
      obtain ⟨oi, eoi, rr⟩ := id hip
      have nL : @Ne Nat hE.objs.size L := by obtain ⟨o, _, _, e, _⟩ := FE.ns; exact nx e
      refine mkI2 _ _ _ fun QQ qq => qq h' _ vs cap oi ob oe oli oco osa obe oce rfl (Fr.mapA namesS7 (keepsF FE kE) rfl rfl (by repeat' (first | exact True.intro | refine And.intro rfl ?_))) (fun p hp => ?_) (mono_GT _ _ kE gtE) nn hip (kE _ _ epa) (mono_tups _ _ _ _ kE tps) nL (nx (NE _ (.head _)).1) (nx (NE _ (.tail _ (.head _))).1) (nx (NE _ (.tail _ (.tail _ (.head _)))).1) (nx epa)
      rcases List.mem_cons.mp hp with rfl | hp
      · exact ⟨kE _ _ (NE _ (.head _)).1, (NE _ (.head _)).2⟩
      rcases List.mem_cons.mp hp with rfl | hp
      · exact ⟨kE _ _ (NE _ (.tail _ (.head _))).1, (NE _ (.tail _ (.head _))).2⟩
      rcases List.mem_cons.mp hp with rfl | hp
      · exact ⟨kE _ _ (NE _ (.tail _ (.tail _ (.head _)))).1, (NE _ (.tail _ (.tail _ (.head _)))).2⟩
      rcases List.mem_cons.mp hp with rfl | hp
      · exact ⟨eoi, nL, Heap.get?_none_of_le (Nat.le_trans FE.above (Nat.le_of_lt FE.ns.lt))⟩
      · cases hp
    · intro ip q s' hx
      refine unI2 _ _ _ _ hx ?_
      clear hx
      rintro h' tk vs cap oi ob oe oli oco osa obe oce rfl F N g nn hip e1 e2 _ _ _ _ _
      exact ⟨hip, e1, e2⟩
    · intro ip q s' h₁₀ p t1 t2 hp hx hip₁ kx₁
      refine unI2 _ _ _ _ hx ?_
      clear hx
      rintro h' tk vs cap oi ob oe oli oco osa obe oce rfl F N g nn hip e1 e2 j1 j2 j3 j4 j5
      obtain ⟨⟨ci, ca, cb⟩, hc, rfl⟩ := hcell q p hp
      obtain ⟨b1, b2, b3⟩ := cellsUp_bound hr _ (List.mem_of_getElem? hc)
      dsimp only at b1 b2 b3
      dsimp only [Sh] at kx₁
      have n4 := N _ (.tail _ (.tail _ (.tail _ (.head _))))
      have nip : ∀ b : Nat, b ≠ ip → b ∉ [ip] := fun b a1 hm => a1 (List.mem_singleton.mp hm)
      have F0 : Fr (gh s.heap) L h₁₀ _ := ⟨F.ns.at' fun o e => kx₁ _ _ (nip _ (Ne.symm j1)) e, fun b o e => kx₁ _ _ (nip _ (fun q => by rw [q, n4.2.2] at e; cases e)) (F.keep _ _ e), F.above⟩
      obtain ⟨oi', eoi, coi, doi⟩ := id hip₁
      have N0 : News (gh s.heap) L h₁₀ [(D, ⟨.type "list", none, .seq vs.toArray cap, #[]⟩), (L + 1, oc8), (it, ⟨.type "range_iterator", none, .fields fs, #[]⟩), (ip, oi')] := by
        intro p hp
        rcases List.mem_cons.mp hp with rfl | hp
        · exact ⟨kx₁ _ _ (nip _ (Ne.symm j2)) (N _ (.head _)).1, (N _ (.head _)).2⟩
        rcases List.mem_cons.mp hp with rfl | hp
        · exact ⟨kx₁ _ _ (nip _ (Ne.symm j3)) (N _ (.tail _ (.head _))).1, (N _ (.tail _ (.head _))).2⟩
        rcases List.mem_cons.mp hp with rfl | hp
        · exact ⟨kx₁ _ _ (nip _ (Ne.symm j4)) (N _ (.tail _ (.tail _ (.head _)))).1, (N _ (.tail _ (.tail _ (.head _)))).2⟩
        rcases List.mem_cons.mp hp with rfl | hp
        · exact ⟨eoi, n4.2⟩
        · cases hp
      have offP : ∀ {H : Heap} {m : Str → Option Value} {vs : List Value} {cap : Nat}, Fr (gh s.heap) L H m → News (gh s.heap) L H [(D, ⟨.type "list", none, .seq vs.toArray cap, #[]⟩), (L + 1, oc8), (it, ⟨.type "range_iterator", none, .fields fs, #[]⟩), (ip, oi')] → ∀ a ∈ [L, D, L + 1, it, ip], Off H a ∧ NoTup H a := fun F N a ha => by
        rcases List.mem_cons.mp ha with rfl | ha
        · exact ⟨Off.ns F.ns, NoTup.ns F.ns⟩
        rcases List.mem_cons.mp ha with rfl | ha
        · exact ⟨Off.list (N _ (.head _)).1, NoTup.of (N _ (.head _)).1 (by simp)⟩
        rcases List.mem_cons.mp ha with rfl | ha
        · exact ⟨⟨_, (N _ (.tail _ (.head _))).1, ocT, fun _ _ q => by rw [d8] at q; cases q⟩, NoTup.data (N _ (.tail _ (.head _))).1 (fun _ _ q => by rw [d8] at q; cases q)⟩
        rcases List.mem_cons.mp ha with rfl | ha
        · exact ⟨⟨_, (N _ (.tail _ (.tail _ (.head _)))).1, rfl, fun _ q => absurd q (by simp)⟩, NoTup.of (N _ (.tail _ (.tail _ (.head _)))).1 (by simp)⟩
        · rw [List.mem_singleton.mp ha]
          have n := N _ (.tail _ (.tail _ (.tail _ (.head _))))
          exact ⟨⟨_, n.1, by unfold isTab; rw [coi, doi], fun _ q => absurd (coi.symm.trans q) (by simp)⟩, NoTup.of n.1 (by rw [coi]; simp)⟩
      have paS : pa ∉ [L, D, L + 1, it, ip] := fun hm => by
        rcases List.mem_cons.mp hm with q | hm
        · exact paL q
        rcases List.mem_cons.mp hm with q | hm
        · exact paD q
        rcases List.mem_cons.mp hm with q | hm
        · exact paC q
        rcases List.mem_cons.mp hm with q | hm
        · exact pai q
        · exact j5 (List.mem_singleton.mp hm).symm
      have g0 : (GT T0) h₁₀ := GT.kx g (S := [ip]) (fun a ha => by
        rw [List.mem_singleton.mp ha]
        obtain ⟨o, e, c, dd⟩ := hip
        exact ⟨o, e, by unfold isTab; rw [c, dd], fun _ q => absurd (c.symm.trans q) (by simp)⟩) kx₁
      have tp0 : TupsOf h₁₀ pvs (placesUp (lettersF k) rows rows.length) := by
        refine TupsOf.unhide (S := [ip]) (mono_tups _ _ _ _ (Kf.hide kx₁) (TupsOf.hide (fun a ha => ?_) e2))
        rw [List.mem_singleton.mp ha]
        obtain ⟨o, e, c, dd⟩ := hip
        exact NoTup.of e (by rw [c]; simp)
      obtain ⟨J, hJ⟩ : ∃ J : Heap → Prop, J = fun H => (GT T0) H ∧ H.get? pa = some ⟨.type "list", none, .seq pvs.toArray pn, #[]⟩ ∧ TupsOf H pvs (placesUp (lettersF k) rows rows.length) := ⟨_, rfl⟩
      have hm : Mono J := by
        rw [hJ]
        exact fun H H' k x => ⟨mono_GT _ _ k x.1, k _ _ x.2.1, mono_tups _ _ _ _ k x.2.2⟩
      have j : J (hideAll h₁₀ (L :: [D, L + 1, it, ip])) := by
        rw [hJ]
        exact ⟨g0.hide fun a ha => (offP F0 N0 a ha).1, hideAll_get _ (kx₁ _ _ (nip _ (Ne.symm j5)) e1) paS, TupsOf.hide (fun a ha => (offP F0 N0 a ha).2) tp0⟩
      clear F N g e1 e2 hip g0 tp0 kx₁
      have gno : ∀ {H : Heap} {m : Str → Option Value} {b : Addr}, Fr (gh s.heap) L H m → H.get? b = none → (gh s.heap).get? b = none ∧ @Ne Nat b L := fun {H m b} F e => by
        refine ⟨?_, ?_⟩
        · cases q : (gh s.heap).get? b with
          | none => rfl
          | some o => rw [F.keep _ _ q] at e; cases e
        · intro q
          obtain ⟨o, _, _, e', _⟩ := F.ns
          rw [q, e'] at e
          cases e
      dsimp only [Sh]
      k_steps
      rename Fr _ _ _ _ => F1
      rename News _ _ _ _ => N1
      rename J (hideAll _ _) => jj1
      refine Stop.go (glc_spec (l := ci + 1) (c := ca) (G.kp (Fr.kp F1)) (Rm.deeper (by decide) (by decide)) (by omega) (by omega) ?_)
      intro tA hG tkG u1 u2 kG nA eA
      have F2 := keepsF F1 kG
      have N2 := News.cons (fun p hp => ⟨kG _ _ (N1 p hp).1, (N1 p hp).2⟩ : News (gh s.heap) L hG _) eA (gno F1 nA).1 (gno F1 nA).2
      have jj2 := hm _ _ (Kf.hide (S := L :: [D, L + 1, it, ip]) fun b o _ e => kG b o e) jj1
      clear F1 N1 jj1
      dsimp only [Sh]
      k_steps
      rename Fr _ _ _ _ => F3
      rename News _ _ _ _ => N3
      rename J (hideAll _ _) => jj3
      refine Stop.go (glc_spec (l := ci + 1) (c := cb) (G.kp (Fr.kp F3)) (Rm.deeper (by decide) (by decide)) (by omega) (by omega) ?_)
      intro tB hH tkH u3 u4 kH nB eB
      have F4 := keepsF F3 kH
      have N4 := News.cons (fun p hp => ⟨kH _ _ (N3 p hp).1, (N3 p hp).2⟩ : News (gh s.heap) L hH _) eB (gno F3 nB).1 (gno F3 nB).2
      have jj4 := hm _ _ (Kf.hide (S := L :: [D, L + 1, it, ip]) fun b o _ e => kH b o e) jj3
      clear F3 N3 jj3
      dsimp only [Sh]
      k_steps
      refine Stop.go (wpAny_For ?_)
      k_steps
      rename Fr _ _ _ _ => F5
      rename News _ _ _ _ => N5
      rename J (hideAll _ _) => jj5
      refine Stop.go (range2_rows F5 N5 ?_)
      intro h6 tk6 t6 u6 v6 hr6 F6 N6 k6
      have jj6 := hm _ _ (Kf.hide (S := L :: [D, L + 1, it, ip]) fun b o _ e => k6 b o e) jj5
      clear F5 N5 jj5
      simp only [set_lkO] at F6
      have hlo : 10 * ((ci + 1 : Nat) : Int) - 10 + (ca : Int) = ((10 * ci + ca : Nat) : Int) := by omega
      have hhi : 10 * ((ci + 1 : Nat) : Int) - 10 + (cb : Int) = ((10 * ci + cb : Nat) : Int) := by omega
      rw [hlo, hhi] at hr6
      generalize hf0 : addRuns (2 ^ k) (numF rows k) (((cellsUp (lettersF k) rows rows.length).take q).map cellRun) = f0 at nn
      have bnd : 10 * ci + cb ≤ 10 * rows.length := by omega
      have N7 : News (gh s.heap) L h6 [(D, ⟨.type "list", none, .seq vs.toArray cap, #[]⟩), (L + 1, oc8), (it, ⟨.type "range_iterator", none, .fields fs, #[]⟩), (ip, oi')] := fun p hp => N6 p (.tail _ (.tail _ hp))
      clear N6
      refine letter3 (fun (ic : Addr) (c : Nat) (s' : Shared) (QQ : Prop) => ∀ (h' : Heap) (tk : Nat) (vs : List Value) (oce : Option Value), s' = Sh s h' tk → (Fr (gh s.heap) L h' fun y => lkO [("cell", oce), ("numbers", some (.ref D)), ("rows", some (.ref rA)), ("letters", some (.str (lettersF k) tJ)), ("begin", some (.str (place ci (ca, cb)).1 t1)), ("end", some (.str (place ci (ca, cb)).2 t2)), ("line", some (.int (ci + 1 : Nat) u1)), ("col", some (.int ca u2)), ("same", some (.int (ci + 1 : Nat) u3)), ("behind", some (.int cb u4))] y) → News (gh s.heap) L h' [(D, ⟨.type "list", none, .seq vs.toArray cap, #[]⟩), (L + 1, oc8), (it, ⟨.type "range_iterator", none, .fields fs, #[]⟩), (ip, oi')] → J (hideAll h' (L :: [D, L + 1, it, ip, ic])) → NumsAt vs (10 * rows.length) (addRun (2 ^ k) f0 (10 * ci + ca) (10 * ci + ca + c)) → IsRangeIter h' ic (((10 * ci + ca : Nat) : Int) + c) (((cb - ca : Nat) : Int) - c) 1 → @Ne Nat ic L → @Ne Nat ic D → @Ne Nat ic (L + 1) → @Ne Nat ic it → @Ne Nat ic ip → (gh s.heap).get? ic = none → QQ) ?_
      intro I3 mkI3 unI3
      refine letter1 (fun (s' : Shared) (QQ : Prop) => ∀ (h' : Heap) (tk : Nat) (vs : List Value) (oce : Option Value), s' = Sh s h' tk → (Fr (gh s.heap) L h' fun y => lkO [("cell", oce), ("numbers", some (.ref D)), ("rows", some (.ref rA)), ("letters", some (.str (lettersF k) tJ)), ("begin", some (.str (place ci (ca, cb)).1 t1)), ("end", some (.str (place ci (ca, cb)).2 t2)), ("line", some (.int (ci + 1 : Nat) u1)), ("col", some (.int ca u2)), ("same", some (.int (ci + 1 : Nat) u3)), ("behind", some (.int cb u4))] y) → News (gh s.heap) L h' [(D, ⟨.type "list", none, .seq vs.toArray cap, #[]⟩), (L + 1, oc8), (it, ⟨.type "range_iterator", none, .fields fs, #[]⟩), (ip, oi')] → J h' → NumsAt vs (10 * rows.length) (addRun (2 ^ k) f0 (10 * ci + ca) (10 * ci + cb)) → QQ) ?_
      intro R3 mkR3 unR3
      refine for_range (n := cb - ca) rfl hr6 ?r1 ?r2
        I3
        R3 ?_ ?_ ?_ ?_ ?_
      case r1 => exact (range_fin ci ca cb (by omega) b2 b3).1
      case r2 => exact (range_fin ci ca cb (by omega) b2 b3).2
      · rintro ic h' rfl kI hic
        dsimp only at hic
        have nx := fun {b : Addr} {o : Obj} (e : h6.get? b = some o) => (Nat.ne_of_gt (Heap.lt_size e) : @Ne Nat h6.objs.size b)
        have nL : @Ne Nat h6.objs.size L := by obtain ⟨o, _, _, e, _⟩ := F6.ns; exact nx e
        refine mkI3 _ _ _ fun QQ qq => qq h' _ vs oce rfl (Fr.mapA namesS7 (keepsF F6 kI) rfl rfl (by repeat' (first | exact True.intro | refine And.intro rfl ?_))) (fun p hp => ⟨kI _ _ (N7 p hp).1, (N7 p hp).2⟩) (hm _ _ ?_ jj6) ?_ (by simpa using hic) nL (nx (N7 _ (.head _)).1) (nx (N7 _ (.tail _ (.head _))).1) (nx (N7 _ (.tail _ (.tail _ (.head _)))).1) (nx (N7 _ (.tail _ (.tail _ (.tail _ (.head _))))).1) (Heap.get?_none_of_le (Nat.le_trans F6.above (Nat.le_of_lt F6.ns.lt)))
        · intro b o e
          have hb : b ∉ L :: [D, L + 1, it, ip] := fun hmm => by rw [hideAll_none _ hmm] at e; cases e
          have e' := of_hideAll _ e
          refine hideAll_get _ (kI _ _ e') fun hmm => ?_
          have : b ∈ (L :: [D, L + 1, it, ip]) ++ [h6.objs.size] := hmm
          rcases List.mem_append.mp this with hmm | hmm
          · exact hb hmm
          · exact nx e' (List.mem_singleton.mp hmm).symm
        · have : addRun (2 ^ k) f0 (10 * ci + ca) (10 * ci + ca + 0) = f0 := by
            funext c
            unfold addRun
            rw [if_neg (by omega)]
          rw [this]; exact nn
      · intro ic c s' hx
        refine unI3 _ _ _ _ hx ?_
        clear hx
        rintro h' tk vs oce rfl F N jx nn hic _ _ _ _ _ _
        exact hic
      · intro ic c s' h₁₁ hc' hx hic₁ sb₁
        refine unI3 _ _ _ _ hx ?_
        clear hx
        rintro h' tk vs oce rfl F N jx nn hic l1 l2 l3 l4 l5 l6
        dsimp only [Sh] at sb₁ ⊢
        have F8 : Fr (gh s.heap) L h₁₁ _ := ⟨F.ns.at' fun o e => sb₁.extBut _ _ (Ne.symm l1) e, fun b o e => sb₁.extBut _ _ (fun q => by rw [q, l6] at e; cases e) (F.keep _ _ e), F.above⟩
        obtain ⟨fc, hfc, hbackc⟩ : ∃ fc, h₁₁.get? ic = some ⟨.type "range_iterator", none, .fields fc, #[]⟩ ∧ ∀ H : Heap, H.get? ic = some ⟨.type "range_iterator", none, .fields fc, #[]⟩ → IsRangeIter H ic (((10 * ci + ca : Nat) : Int) + ((c + 1 : Nat) : Int)) (((cb - ca : Nat) : Int) - ((c + 1 : Nat) : Int)) 1 := ⟨_, hic₁, fun H e => e⟩
        have N8 : News (gh s.heap) L h₁₁ [(D, ⟨.type "list", none, .seq vs.toArray cap, #[]⟩), (L + 1, oc8), (it, ⟨.type "range_iterator", none, .fields fs, #[]⟩), (ip, oi'), (ic, ⟨.type "range_iterator", none, .fields fc, #[]⟩)] := by
          intro p hp
          rcases List.mem_cons.mp hp with rfl | hp
          · exact ⟨sb₁.extBut _ _ (Ne.symm l2) (N _ (.head _)).1, (N _ (.head _)).2⟩
          rcases List.mem_cons.mp hp with rfl | hp
          · exact ⟨sb₁.extBut _ _ (Ne.symm l3) (N _ (.tail _ (.head _))).1, (N _ (.tail _ (.head _))).2⟩
          rcases List.mem_cons.mp hp with rfl | hp
          · exact ⟨sb₁.extBut _ _ (Ne.symm l4) (N _ (.tail _ (.tail _ (.head _)))).1, (N _ (.tail _ (.tail _ (.head _)))).2⟩
          rcases List.mem_cons.mp hp with rfl | hp
          · exact ⟨sb₁.extBut _ _ (Ne.symm l5) (N _ (.tail _ (.tail _ (.tail _ (.head _))))).1, (N _ (.tail _ (.tail _ (.tail _ (.head _))))).2⟩
          rcases List.mem_cons.mp hp with rfl | hp
          · exact ⟨hfc, l1, l6⟩
          · cases hp
        have jj8 : J (hideAll h₁₁ (L :: [D, L + 1, it, ip, ic])) := hm _ _ (Kf.hide fun b o hb e => sb₁.extBut _ _ (fun q => hb (by rw [q]; simp)) e) jx
        clear F N jx F6 N7 jj6
        rw [show ((10 * ci + ca : Nat) : Int) + (c : Int) = ((10 * ci + ca + c : Nat) : Int) by omega]
        have hlt : 10 * ci + ca + c < 10 * rows.length := by omega
        obtain ⟨tv, etv⟩ := nn.2 _ hlt
        k_steps
        rename Fr _ _ _ _ => F9
        rename News _ _ _ _ => N9
        rename J (hideAll _ _) => jj9
        refine Stop.go (item_list (N9 _ (.head _)).1 (by omega) etv ?_)
        k_steps
        refine Stop.go (setItem_plain (N9 _ (.head _)).1 (by omega) (by omega) (by rw [nn.1]; omega) ?_)
        intro hS eS sbS
        have F10 : Fr (gh s.heap) L hS _ := F9.change sbS (N9 _ (.head _)).2.1 (N9 _ (.head _)).2.2
        have jj10 : J (hideAll hS (L :: [D, L + 1, it, ip, ic])) := hm _ _ (Kf.hide fun b o hb e => sbS.extBut _ _ (fun q => hb (by rw [q]; simp)) e) jj9
        simp only [set_lkO] at F10
        k_steps
        show Stop _
        obtain ⟨vs', hvs', eS'⟩ : ∃ vs', NumsAt vs' (10 * rows.length) (addRun (2 ^ k) f0 (10 * ci + ca) (10 * ci + ca + (c + 1))) ∧ hS.get? D = some ⟨.type "list", none, .seq vs'.toArray cap, #[]⟩ := by
          refine ⟨_, ?_, eS⟩
          rw [Int.toNat_natCast]
          refine NumsAt.step nn (Nat.le_add_right _ _) ?_
          have e0 : addRun (2 ^ k) f0 (10 * ci + ca) (10 * ci + ca + c) (10 * ci + ca + c) = f0 (10 * ci + ca + c) := by unfold addRun; rw [if_neg (by omega)]
          rw [e0]
          congr 1
          rw [Int.zero_add, Int.toNat_natCast]
        have Dip : @Ne Nat ip D := j2
        refine Stop.go (mkI3 _ _ _ fun QQ qq => qq hS _ vs' _ rfl (Fr.mapA namesS7 F10 rfl rfl (by repeat' (first | exact True.intro | refine And.intro rfl ?_))) ?_ jj10 hvs' (hbackc _ (sbS.extBut _ _ l2 (N9 _ (.tail _ (.tail _ (.tail _ (.tail _ (.head _)))))).1)) l1 l2 l3 l4 l5 l6)
        intro p hp
        rcases List.mem_cons.mp hp with rfl | hp
        · exact ⟨eS', (N9 _ (.head _)).2⟩
        rcases List.mem_cons.mp hp with rfl | hp
        · exact ⟨sbS.extBut _ _ (Ne.symm DL1) (N9 _ (.tail _ (.head _))).1, (N9 _ (.tail _ (.head _))).2⟩
        rcases List.mem_cons.mp hp with rfl | hp
        · exact ⟨sbS.extBut _ _ i2 (N9 _ (.tail _ (.tail _ (.head _)))).1, (N9 _ (.tail _ (.tail _ (.head _)))).2⟩
        rcases List.mem_cons.mp hp with rfl | hp
        · exact ⟨sbS.extBut _ _ j2 (N9 _ (.tail _ (.tail _ (.tail _ (.head _))))).1, (N9 _ (.tail _ (.tail _ (.tail _ (.head _))))).2⟩
        · cases hp
      · intro ic s' h' hx xb
        refine unI3 _ _ _ _ hx ?_
        clear hx
        rintro h'' tk vs oce rfl F N jx nn hic l1 l2 l3 l4 l5 l6
        refine mkR3 _ fun QQ qq => qq h' tk vs oce rfl ⟨F.ns.at' fun o e => xb _ _ (Ne.symm l1) e, fun b o e => xb _ _ (fun q => by rw [q, l6] at e; cases e) (F.keep _ _ e), F.above⟩ (fun p hp => ?_) (hm _ _ ?_ jx) ?_
        · rcases List.mem_cons.mp hp with rfl | hp
          · exact ⟨xb _ _ (Ne.symm l2) (N _ (.head _)).1, (N _ (.head _)).2⟩
          rcases List.mem_cons.mp hp with rfl | hp
          · exact ⟨xb _ _ (Ne.symm l3) (N _ (.tail _ (.head _))).1, (N _ (.tail _ (.head _))).2⟩
          rcases List.mem_cons.mp hp with rfl | hp
          · exact ⟨xb _ _ (Ne.symm l4) (N _ (.tail _ (.tail _ (.head _)))).1, (N _ (.tail _ (.tail _ (.head _)))).2⟩
          rcases List.mem_cons.mp hp with rfl | hp
          · exact ⟨xb _ _ (Ne.symm l5) (N _ (.tail _ (.tail _ (.tail _ (.head _))))).1, (N _ (.tail _ (.tail _ (.tail _ (.head _))))).2⟩
          · cases hp
        · intro b o e
          refine xb _ _ (fun q => ?_) (of_hideAll _ e)
          rw [hideAll_none _ (show b ∈ L :: [D, L + 1, it, ip, ic] by rw [q]; simp)] at e
          cases e
        · rw [show 10 * ci + ca + (cb - ca) = 10 * ci + cb by omega] at nn
          exact nn
      · intro s' hx
        refine unR3 _ _ hx ?_
        clear hx
        rintro h' tk vs oce rfl F N jx nn
        dsimp only [Sh]
        k_steps
        show Stop _
        rw [hJ] at jx
        refine Stop.go (mkI2 _ _ _ fun QQ qq => qq h' tk vs cap oi' _ _ _ _ _ _ _ rfl (Fr.mapA namesS7 F rfl rfl (by repeat' (first | exact True.intro | refine And.intro rfl ?_))) N jx.1 ?_ ⟨oi', (N _ (.tail _ (.tail _ (.tail _ (.head _))))).1, coi, doi⟩ jx.2.1 jx.2.2 j1 j2 j3 j4 j5)
        have e : (cellsUp (lettersF k) rows rows.length).take (q + 1) = (cellsUp (lettersF k) rows rows.length).take q ++ [(ci, ca, cb)] := by
          rw [List.take_succ, hc]; rfl
        rw [e, List.map_append, List.map_singleton, addRuns_snoc, hf0]
        exact nn
    · intro ip s' h' hx xb
      refine unI2 _ _ _ _ hx ?_
      clear hx
      rintro h'' tk vs cap oi ob oe oli oco osa obe oce rfl F N g nn hip e1 e2 j1 j2 j3 j4 j5
      have n4 := N _ (.tail _ (.tail _ (.tail _ (.head _))))
      refine mkR2 _ fun QQ qq => qq h' tk vs cap ob oe oli oco osa obe oce rfl ⟨F.ns.at' fun o e => xb _ _ (Ne.symm j1) e, fun b o e => xb _ _ (fun q => by rw [q, n4.2.2] at e; cases e) (F.keep _ _ e), F.above⟩ (fun p hp => ?_) ?_ ?_
      · rcases List.mem_cons.mp hp with rfl | hp
        · exact ⟨xb _ _ (Ne.symm j2) (N _ (.head _)).1, (N _ (.head _)).2⟩
        rcases List.mem_cons.mp hp with rfl | hp
        · exact ⟨xb _ _ (Ne.symm j3) (N _ (.tail _ (.head _))).1, (N _ (.tail _ (.head _))).2⟩
        rcases List.mem_cons.mp hp with rfl | hp
        · exact ⟨xb _ _ (Ne.symm j4) (N _ (.tail _ (.tail _ (.head _)))).1, (N _ (.tail _ (.tail _ (.head _)))).2⟩
        · cases hp
      · refine GT.kx g (S := [ip]) (fun a ha => ?_) (KX.eb xb (.head _))
        rw [List.mem_singleton.mp ha]
        obtain ⟨o, e, c, dd⟩ := hip
        exact ⟨o, e, by unfold isTab; rw [c, dd], fun _ q => absurd (c.symm.trans q) (by simp)⟩
      · have hlen : (placesUp (lettersF k) rows rows.length).length = (cellsUp (lettersF k) rows rows.length).length := by rw [placesUp_cells, List.length_map]
        have nn' : NumsAt vs (10 * rows.length) (addRuns (2 ^ k) (numF rows k) (((cellsUp (lettersF k) rows rows.length).take (placesUp (lettersF k) rows rows.length).length).map cellRun)) := nn
        rw [hlen, List.take_length] at nn'
        exact nn'
    · intro s' hx
      refine unR2 _ _ hx ?_
      clear hx
      rintro h' tk vs cap ob oe oli oco osa obe oce rfl F N g nn
      dsimp only [Sh]
      k_steps
      show Stop _
      refine Stop.go (mkI1 _ _ _ fun QQ qq => qq h' tk vs cap oc8 _ _ _ _ _ _ _ _ _ rfl F (fun p hp => N p ?_) d8 g nn (hback _ (N _ (.tail _ (.tail _ (.head _)))).1) i1 i2 i3 i4)
      rcases List.mem_cons.mp hp with rfl | hp
      · exact .head _
      rcases List.mem_cons.mp hp with rfl | hp
      · exact .tail _ (.head _)
      · cases hp
  · intro it s' h' hx xb
    refine unI1 _ _ _ _ hx ?_
    clear hx
    rintro h'' tk vs cap oc cv ol ob oe oli oco osa obe oce rfl F N dc g nn hit i1 i2 i3 i4
    refine mkR1 _ fun QQ qq => qq h' tk vs cap ol ob oe oli oco osa obe oce rfl ⟨F.ns.at' fun o e => xb _ _ (Ne.symm i1) e, fun b o e => xb _ _ (fun q => by rw [q, i4] at e; cases e) (F.keep _ _ e), F.above⟩ (xb _ _ (Ne.symm i2) (N _ (.head _)).1) (GT.kx g (S := [it]) (fun a ha => by rw [List.mem_singleton.mp ha]; exact ⟨_, hit, rfl, fun _ q => absurd q (by simp)⟩) (KX.eb xb (.head _))) nn
  · intro s' hx
    refine unR1 _ _ hx ?_
    clear hx
    rintro h' tk vs cap ol ob oe oli oco osa obe oce rfl F eD' g nn
    have N : News (gh s.heap) L h' [] := News.nil
    dsimp only [Sh]
    k_steps
    exact hq _ _ _ (Fr.kp F) g (Nat.le_trans lh₁ (Nat.le_of_lt lD)) ⟨vs, cap, eD', nn⟩
end Mine
end

-- S8a
namespace Mine
open PySem PySem.W PyProof.Rows PySem.Spec PySem.Calls
section
variable {prog : Program} {w : World} {A : Around} {E : Value → Shared → Prop} {s : Shared}
/-- StopIteration without a value is raised -/
theorem stop_raised {α : Type} {Q : α → Shared → Prop} (hh : A.handled = none) (h : ∀ h' e, Kf s.heap h' → (∃ o, h'.get? e = some o ∧ o.cls = .type "StopIteration") → E (.ref e) { s with heap := h' }) :
    wpAny (model prog w) A (Builtin.SmallTypes.stopIteration : Sem α) Q E s := by
  obtain ⟨hp, g, d, t, os⟩ := s
  have hf : firstArgMember (.type "StopIteration") [] = pure .none := by simp only [firstArgMember]; rfl
  unfold Builtin.SmallTypes.stopIteration
  wp_walk
  exact wpAny_raiseNew_none hh (h _ _ (fun b o e => Heap.get?_push_of_some _ (Heap.get?_push_of_some _ e)) ⟨_, Heap.get?_push_size _ rfl, rfl⟩)
/-- the next of a tuple's iterator: an item, or the end -/
theorem nextOf_tup {it t : Addr} {i : Nat} {items : Array Value} {Q : Value → Shared → Prop} (hh : A.handled = none) (hit : s.heap.IsTupleIter it t i) (ht : s.heap.IsTuple t items)
    (hx : ∀ x, items[i]? = some x → ∀ h', h'.IsTupleIter it t (i + 1) → Heap.SameBut it s.heap h' → Q x { s with heap := h' })
    (hn : items[i]? = none → ∀ h' e, Heap.ExtBut it s.heap h' → (∃ o, h'.get? e = some o ∧ o.cls = .type "StopIteration") → E (.ref e) { s with heap := h' }) :
    wpAny (model prog w) A (Builtin.SmallTypes.nextOf (.ref it)) Q E s := by
  have T := hit.typeIs
  obtain ⟨⟨_, _, _, _⟩, ho, rfl, rfl⟩ := hit
  obtain ⟨_, hol, _, _, hdl⟩ := ht
  unfold Builtin.SmallTypes.nextOf
  refine wpAny_bind (wpAny_callSpecial?_slot T F.slot_tuple_iterator_next (wpAny_call_entry F.slot_tuple_iterator_next T F.entry_tuple_iterator_next ?_ (F.args_tuple_iterator_next_1 _)))
  wp_walk using wpAny_field (i := 0) (x := .ref t) ho rfl rfl, wpAny_field (i := 1) (x := .int i 0) ho rfl rfl, wpAny_seqItems hol hdl
  rw [Int.toNat_natCast]
  cases e : items[i]? with
  | some x => exact wpAny_bind (wpAny_setField ho rfl (Nat.lt_succ_self 1) (wpAny_pure ⟨x, rfl, wpAny_pure (hx x e _ ⟨_, Heap.get?_update_self _ ho rfl, rfl, rfl⟩ (.update ..))⟩))
  | none => exact wpAny_bind (wpAny_rule (wpAny_bind (wpAny_setField ho rfl Nat.zero_lt_two (stop_raised hh fun h' e' k c => hn e _ _ (fun b o hb hg => k b o (Heap.SameBut.extBut (.update ..) b o hb hg)) c))))
theorem draws_tuple (hh : A.handled = none) (it l : Addr) (hne : l ≠ it) (items : Array Value) :
    Draws prog w A it [it, l] items.size (fun i v => items[i]? = some v) (fun i h => h.IsTupleIter it l i ∧ h.IsTuple l items) where
  live := fun _ _ ⟨⟨o, e, _⟩, _⟩ => ⟨o, e⟩
  frame := fun _ _ _ ⟨a, b⟩ hk => ⟨a.at (hk it (.head _)), b.at (hk l (.tail _ (.head _)))⟩
  item := fun i s Q E hi ⟨a, b⟩ hQ => nextOf_tup hh a b (fun x e h' a' sb => hQ x h' s.toks e ⟨a', b.extBut sb.extBut hne⟩ sb) fun e => absurd hi (Nat.not_lt.mpr (Array.getElem?_eq_none_iff.mp e))
  done := fun s Q E ⟨a, b⟩ hE => nextOf_tup hh a b (fun x e => absurd (Array.getElem?_eq_some_iff.mp e).1 (Nat.lt_irrefl _)) fun _ => hE

/-- enumerate of a tuple: its iterator and the enumerate object are made -/
theorem enumerate_newT (l : Addr) (items : Array Value) (n : Nat) (dct : Option Addr) (sl : Array (Option Value)) :
    Meets (Builtin.«enumerate.__new__» ⟨[.type "enumerate", .ref l], []⟩) (fun _ R s => s.heap.get? l = some ⟨.type "tuple", dct, .seq items n, sl⟩ ∧
      R (.ok (.ret (.ref (s.heap.push ⟨.type "tuple_iterator", none, .fields #[.ref l, .int 0 0], #[]⟩).objs.size)))
        { s with heap := (s.heap.push ⟨.type "tuple_iterator", none, .fields #[.ref l, .int 0 0], #[]⟩).push ⟨.type "enumerate", none, .fields #[.none, .bool false, .ref s.heap.objs.size, rawInt 0, .none, .none], #[]⟩ }) :=
  .of_wp fun prog w A R ⟨hp, g, d, tk, os⟩ ⟨hl, h⟩ => by
    have hsub := sub_enumerate
    have hT : Heap.IsTuple hp l items := ⟨_, hl, rfl, _, rfl⟩
    wp_walk using AutoSeq1.wpAny_loadPart' hl
    refine wpAny_stack_any fun _ => wpAny_pure ?_
    split
    rotate_left
    all_goals (first | (rename_i c _ _ _ _ _; cases c == Value.type "enumerate") | skip)
    all_goals (wp_walk using AutoSeq1.wpAny_loadPart' hl, wpAny_pyIter_tuple (s := ⟨hp, g, d, tk, os⟩) hT; exact ⟨_, rfl, h⟩)
theorem call_enumerate_tuple {l : Addr} {items : Array Value} {Q : Value → Shared → Prop} (hL : s.heap.IsTuple l items)
    (h : ∀ h', IsEnum h' (s.heap.objs.size + 1) s.heap.objs.size 0 .none → h'.IsTupleIter s.heap.objs.size l 0 → h'.objs.size = s.heap.objs.size + 2 →
      (∀ b o, s.heap.get? b = some o → h'.get? b = some o) → Q (.ref (s.heap.objs.size + 1)) { s with heap := h' }) :
    wpAny (model prog w) A (call (.type "enumerate") [.ref l]) Q E s := by
  obtain ⟨⟨_, dct, _, sl⟩, hl, rfl, n, rfl⟩ := hL
  refine callType_new F.called_enumerate (by decide) (F.typeCall_enumerate_1 _) (F.newCall_enumerate_1 _) (fun _ => F.args_object_init_2 _ _) F.entry_enumerate_new (enumerate_newT l items n dct sl) ⟨hl, ?_⟩
  obtain ⟨H, hH⟩ : ∃ H, H = s.heap.push ⟨.type "tuple_iterator", none, .fields #[.ref l, .int 0 0], #[]⟩ := ⟨_, rfl⟩
  have z : H.objs.size = s.heap.objs.size + 1 := by rw [hH]; exact Heap.size_push ..
  have old : Kf s.heap H := fun b o e => hH ▸ Heap.get?_push_of_some _ e
  have it0 : H.IsTupleIter s.heap.objs.size l 0 := hH ▸ ⟨_, Heap.get?_push_size _ rfl, rfl, rfl⟩
  show _ ∧ _
  rw [← hH]
  have en := Heap.get?_push_size H (o := ⟨.type "enumerate", none, .fields #[.none, .bool false, .ref s.heap.objs.size, rawInt 0, .none, .none], #[]⟩) rfl
  have q := h _ (z ▸ en) (it0.at fun o e => Heap.get?_push_of_some _ e) (by rw [Heap.size_push, z]) fun b o e => Heap.get?_push_of_some _ (old b o e)
  rw [z] at en ⊢
  exact ⟨⟨_, en, rfl⟩, q⟩
end
end Mine

-- S8b
namespace Mine
open PySem PySem.W PyProof.Rows PySem.Spec PySem.Calls
/-- a tuple's items: pairs of a number and a text -/
noncomputable def PairsT (h : Heap) (vs : Array Value) (ps : List (Int × Str)) : Prop := vs.size = ps.length ∧ ∀ (k : Nat) (p : Int × Str), ps[k]? = some p → ∃ (tA : Addr) (t1 t2 : Tok), vs[k]? = some (Value.ref tA) ∧ h.IsTuple tA #[.int p.1 t1, .str p.2 t2]
theorem PairsT.kf {h h' : Heap} {vs : Array Value} {ps : List (Int × Str)} (x : PairsT h vs ps) (k : Kf h h') : PairsT h' vs ps := ⟨x.1, fun i p e => let ⟨a, t1, t2, e1, o, e2, r⟩ := x.2 i p e; ⟨a, t1, t2, e1, o, k _ _ e2, r⟩⟩
section
variable {w : World} {A : Around} {E : Value → Shared → Prop} {s : Shared} {env : Env}
theorem for_pairsT {Q : Flow → Shared → Prop} {xb xe : Str} {pb pe pt : Pos} {kk : Nat} {body orelse : List Stmt} {a : Addr} {ps : List (Int × Str)} {vs : Array Value}
    (hh : A.handled = none) (ha : s.heap.IsTuple a vs)
    (I : Addr → Nat → Shared → Prop)
    (h0 : ∀ it h', it = s.heap.objs.size → Kf s.heap h' → h'.IsTupleIter it a 0 → I it 0 { s with heap := h' })
    (hI : ∀ it k s', I it k s' → s'.heap.IsTupleIter it a k ∧ s'.heap.IsTuple a vs ∧ PairsT s'.heap vs ps)
    (turn : ∀ it k s' h₁ p t1 t2, ps[k]? = some p → I it k s' → h₁.IsTupleIter it a (k + 1) → KX [it] s'.heap h₁ →
      wpAny (model PG w) A (storeName env xb (.int p.1 t1)) (fun _ s₂ => wpAny (model PG w) A (storeName env xe (.str p.2 t2)) (fun _ s₃ => wpAny (model PG w) A (execs body env) (fun f s₄ => match f with
        | .next | .cont => Stop (I it (k + 1) s₄)
        | .brk => Q .next s₄
        | .ret v => Q (.ret v) s₄) (fun _ _ => False) s₃) (fun _ _ => False) s₂) (fun _ _ => False) { s' with heap := h₁ })
    (last : ∀ it s' h₁, I it ps.length s' → Heap.ExtBut it s'.heap h₁ → wpAny (model PG w) A (execs orelse env) Q (fun _ _ => False) { s' with heap := h₁ }) :
    wpAny (model PG w) A (pyIter (.ref a)) (fun it s₂ =>
      codeAny (model PG w) A (.forLoop (.Tuple [.Name xb pb, .Name xe pe] kk pt) it body orelse env) (fun r s' => match r with | .ok f => Q f s' | .error e => cameBackBy (model PG w) A env E e s') s₂) E s := by
  refine wpAny_pyIter_tuple ha ?_
  refine codeAny_forLoop_any (fun m s' => ∃ k, k ≤ ps.length ∧ m = ps.length - k ∧ I s.heap.objs.size k s') ?_ ps.length
    ⟨0, Nat.zero_le _, rfl, h0 _ _ rfl (fun b o e => Heap.get?_push_of_some _ e) ⟨_, Heap.get?_push_size _ rfl, rfl, rfl⟩⟩
  rintro m s' ⟨k, hk, rfl, hi⟩
  obtain ⟨hit, hal, hlen, htp⟩ := hI _ _ _ hi
  by_cases hlt : k < ps.length
  · obtain ⟨tA, t1, t2, hv, htA⟩ := htp k ps[k] (by simp [hlt])
    have nI : @Ne Nat tA s.heap.objs.size := by
      intro q
      obtain ⟨o, e, c, _⟩ := hit
      obtain ⟨o', e', c', _⟩ := htA
      rw [q, e] at e'
      cases e'
      rw [c] at c'
      exact absurd c' (by simp)
    refine wpAny_pyNext_tuple_item hit hal hv fun h₁ hit₁ hs₁ => ?_
    refine letGo_tupleiter hit₁ ?_
    have tu : h₁.IsTuple tA #[.int ps[k].1 t1, .str ps[k].2 t2] := htA.extBut hs₁.extBut nI
    refine wpAny_assign_Tuple hh tu rfl rfl fun h₂ k₂ => ?_
    have k2 : Kf h₁ h₂ := fun b o x => k₂ b o (Nat.ne_of_lt (Heap.lt_size x)) x
    have hit₂ : h₂.IsTupleIter s.heap.objs.size a (k + 1) := let ⟨o, e, r⟩ := hit₁; ⟨o, k2 _ _ e, r⟩
    show wpAny _ A (do holding [.str ps[k].2 t2] (assign (.Name xb pb) env (.int ps[k].1 t1)); do holding [] (assign (.Name xe pe) env (.str ps[k].2 t2)); pure ()) _ _ _
    have tn := turn _ k s' h₂ ps[k] t1 t2 (by simp [hlt]) hi hit₂ (KX.trans (KX.sb hs₁ (.head _)) (KX.kf k2))
    refine wpAny_bind (wpAny_holding (wpAny_assign_Name (wpAny_mono tn (fun _ s₂ h₂ => ?_) fun _ _ x => x.elim)))
    refine wpAny_bind (wpAny_holding (wpAny_assign_Name (wpAny_mono h₂ (fun _ s₃ h₃ => wpAny_pure ?_) fun _ _ x => x.elim)))
    refine wpAny_mono h₃ (fun f s₄ h₄ => ?_) fun _ _ x => x.elim
    cases f with
    | next => exact ⟨ps.length - (k + 1), by omega, k + 1, hlt, rfl, h₄⟩
    | cont => exact ⟨ps.length - (k + 1), by omega, k + 1, hlt, rfl, h₄⟩
    | brk => exact h₄
    | ret v => exact h₄
  · obtain rfl : k = ps.length := by omega
    refine wpAny_pyNext_tuple_end hh hit hal (by simp [hlen]) fun h₁ he₁ => wpAny_mono (last _ _ _ hi he₁) (fun f s₄ h₄ => h₄) fun _ _ x => x.elim
theorem for_enumT {Q : Flow → Shared → Prop} {xi xt : Str} {pi pe pt : Pos} {kk : Nat} {body : List Stmt} {e it l : Addr} {items : Array Value}
    (hh : A.handled = none) (n1 : @Ne Nat e it) (n2 : @Ne Nat l it) (n3 : @Ne Nat e l)
    (I : Nat → Shared → Prop) (h0 : I 0 s)
    (hI : ∀ k s', I k s' → (∃ old, IsEnum s'.heap e it (k : Nat) old) ∧ s'.heap.IsTupleIter it l k ∧ s'.heap.IsTuple l items)
    (turn : ∀ k s' h₁ tk u x, items[k]? = some x → I k s' → (∃ old, IsEnum h₁ e it (k + 1 : Nat) old) → h₁.IsTupleIter it l (k + 1) → KX [e, it] s'.heap h₁ →
      wpAny (model PG w) A (storeName env xi (.int (k : Nat) u)) (fun _ s₂ => wpAny (model PG w) A (storeName env xt x) (fun _ s₃ => wpAny (model PG w) A (execs body env) (fun f s₄ => match f with
        | .next | .cont => Stop (I (k + 1) s₄)
        | .brk => Q .next s₄
        | .ret v => Q (.ret v) s₄) (fun _ _ => False) s₃) (fun _ _ => False) s₂) (fun _ _ => False) { s' with heap := h₁, toks := tk })
    (last : ∀ s' h₁ tk, I items.size s' → KX [e, it] s'.heap h₁ → Q .next { s' with heap := h₁, toks := tk }) :
    codeAny (model PG w) A (.forLoop (.Tuple [.Name xi pi, .Name xt pe] kk pt) (.ref e) body [] env) (fun r s' => match r with | .ok f => Q f s' | .error x => cameBackBy (model PG w) A env E x s') s := by
  have W := WalksT.enumerateD (prog := PG) (w := w) (A := A) (draws_tuple (A := A.in1) hh it l n2 items) e n1 (fun h => by
    rcases List.mem_cons.mp h with h | h
    · exact n1 h
    · exact n3 (List.mem_singleton.mp h)) (.head _)
  refine codeAny_forLoop_any (fun m s' => ∃ k, k ≤ items.size ∧ m = items.size - k ∧ I k s') ?_ items.size ⟨0, Nat.zero_le _, rfl, h0⟩
  rintro m s' ⟨k, hk, rfl, hi⟩
  obtain ⟨st1, st2, st3⟩ := hI _ _ hi
  by_cases hlt : k < items.size
  · refine W.item k _ _ _ hlt ⟨st1, st2, st3⟩ fun T vals h₁ tk₁ hP hT hTu hMid k₁ => ?_
    obtain ⟨u, x, hx, rfl⟩ := hP
    refine W.go _ _ _ k T _ _ _ hMid fun h₂ hst₂ k₂ => ?_
    have tu₂ : h₂.IsTuple T #[.int (k : Nat) u, x] := by
      obtain ⟨o, eo, r⟩ := hTu; exact ⟨o, k₂ _ _ (W.apart _ _ _ hMid) eo, r⟩
    refine wpAny_assign_Tuple hh tu₂ rfl rfl fun h₃ k₃ => ?_
    have k3 : Kf h₂ h₃ := fun b o x => k₃ b o (Nat.ne_of_lt (Heap.lt_size x)) x
    show wpAny _ A (do holding [x] (assign (.Name xi pi) env (.int (k : Nat) u)); do holding [] (assign (.Name xt pe) env x); pure ()) _ _ _
    have st₃ := W.frame _ _ h₃ hst₂ fun b _ o y => k3 _ _ y
    have tn := turn k s' h₃ tk₁ u x hx hi st₃.1 st₃.2.1 (KX.trans k₁ (KX.trans k₂ (KX.kf k3)))
    refine wpAny_bind (wpAny_holding (wpAny_assign_Name (wpAny_mono tn (fun _ s₂ h₂ => ?_) fun _ _ x => x.elim)))
    refine wpAny_bind (wpAny_holding (wpAny_assign_Name (wpAny_mono h₂ (fun _ s₃ h₃ => wpAny_pure ?_) fun _ _ x => x.elim)))
    refine wpAny_mono h₃ (fun f s₄ h₄ => ?_) fun _ _ x => x.elim
    cases f with
    | next => exact ⟨items.size - (k + 1), by omega, k + 1, hlt, rfl, h₄⟩
    | cont => exact ⟨items.size - (k + 1), by omega, k + 1, hlt, rfl, h₄⟩
    | brk => exact h₄
    | ret v => exact h₄
  · obtain rfl : k = items.size := by omega
    exact W.done _ _ _ ⟨st1, st2, st3⟩ fun h₁ tk₁ k₁ => wpAny_execs_nil (last _ _ _ hi k₁)
end
noncomputable def tabA : List Addr := [29, 31, 33, 37, 39, 41, 45, 47, 49, 53]
noncomputable def tabP : List (List (Int × Str)) := [[(40960, "l"), (49152, "s"), (32768, "-"), (24576, "b"), (16384, "d"), (8192, "c"), (4096, "p")], [(256, "r")], [(128, "w")], [(2112, "s"), (2048, "S"), (64, "x")],
  [(32, "r")], [(16, "w")], [(1032, "s"), (1024, "S"), (8, "x")], [(4, "r")], [(2, "w")], [(513, "t"), (512, "T"), (1, "x")]]
noncomputable def tabI : Array Value := (tabA.map Value.ref).toArray
/-- whether a pair fits -/
noncomputable def fits (k : Nat) (m : Int) (p : Int × Str) : Bool := if k = 0 then Builtin.bitAnd m 61440 == p.1 else Builtin.bitAnd m p.1 == p.1
noncomputable def signAt (m : Int) (k : Nat) : Str := match (tabP.getD k []).find? (fits k m) with
  | some p => p.2
  | none => if k = 0 then "?" else "-"
noncomputable def signsTo (m : Int) (k : Nat) : List Str := (List.range k).map (signAt m)
theorem signsTo_succ {m : Int} {k : Nat} : signsTo m (k + 1) = signsTo m k ++ [signAt m k] := by unfold signsTo; rw [List.range_succ, List.map_append]; rfl
noncomputable def rowOf (m : Int) : Str := Txt.join (Str.ofString "") (signsTo m 10)
theorem pairs_at {w : World} {h : Heap} (X : (hd.heap_39 w.params).In h) : h.IsTuple 54 tabI ∧ ∀ k, k < 10 → ∃ a vs, tabI[k]? = some (.ref a) ∧ h.IsTuple a vs ∧ PairsT h vs (tabP.getD k []) := by
  have tp : ∀ (a : Addr) (vs : Array Value), List.lookup a (hd.heap_39 w.params) = some { cls := .type "tuple", data := .seq vs } → h.IsTuple a vs := fun a vs e => ⟨_, X _ _ e, rfl, _, rfl⟩
  have one : ∀ (a b : Addr) (p : Int × Str) (t1 t2 : Tok), List.lookup a (hd.heap_39 w.params) = some { cls := .type "tuple", data := .seq #[.ref b] } → List.lookup b (hd.heap_39 w.params) = some { cls := .type "tuple", data := .seq #[.int p.1 t1, .str p.2 t2] } →
      ∃ vs, h.IsTuple a vs ∧ PairsT h vs [p] := fun a b p t1 t2 e1 e2 => by
    refine ⟨_, tp _ _ e1, rfl, fun k q hq => ?_⟩
    match k, hq with
    | 0, hq => cases hq; exact ⟨b, t1, t2, rfl, tp _ _ e2⟩
    | k + 1, hq => simp at hq
  have three : ∀ (a b1 b2 b3 : Addr) (p1 p2 p3 : Int × Str) (t1 t2 u1 u2 v1 v2 : Tok), List.lookup a (hd.heap_39 w.params) = some { cls := .type "tuple", data := .seq #[.ref b1, .ref b2, .ref b3] } → List.lookup b1 (hd.heap_39 w.params) = some { cls := .type "tuple", data := .seq #[.int p1.1 t1, .str p1.2 t2] } →
      List.lookup b2 (hd.heap_39 w.params) = some { cls := .type "tuple", data := .seq #[.int p2.1 u1, .str p2.2 u2] } → List.lookup b3 (hd.heap_39 w.params) = some { cls := .type "tuple", data := .seq #[.int p3.1 v1, .str p3.2 v2] } →
      ∃ vs, h.IsTuple a vs ∧ PairsT h vs [p1, p2, p3] := fun a b1 b2 b3 p1 p2 p3 t1 t2 u1 u2 v1 v2 e e1 e2 e3 => by
    refine ⟨_, tp _ _ e, rfl, fun k q hq => ?_⟩
    match k, hq with
    | 0, hq => cases hq; exact ⟨b1, t1, t2, rfl, tp _ _ e1⟩
    | 1, hq => cases hq; exact ⟨b2, u1, u2, rfl, tp _ _ e2⟩
    | 2, hq => cases hq; exact ⟨b3, v1, v2, rfl, tp _ _ e3⟩
    | k + 3, hq => simp at hq
  refine ⟨tp 54 tabI rfl, fun k hk => ?_⟩
  match k, hk with
  | 0, _ =>
    refine ⟨29, _, rfl, tp 29 #[.ref 22, .ref 23, .ref 24, .ref 25, .ref 26, .ref 27, .ref 28] rfl, rfl, fun k q hq => ?_⟩
    have hk7 : k < 7 := by
      rcases Nat.lt_or_ge k 7 with q7 | q7
      · exact q7
      · rw [List.getElem?_eq_none q7] at hq; cases hq
    have h7 : ∀ m : Fin 7, m.val = 0 ∨ m.val = 1 ∨ m.val = 2 ∨ m.val = 3 ∨ m.val = 4 ∨ m.val = 5 ∨ m.val = 6 := by decide +kernel
    rcases h7 ⟨k, hk7⟩ with e | e | e | e | e | e | e <;> (change k = _ at e; subst e)
    · cases hq; exact ⟨22, _, _, rfl, tp _ _ rfl⟩
    · cases hq; exact ⟨23, _, _, rfl, tp _ _ rfl⟩
    · cases hq; exact ⟨24, _, _, rfl, tp _ _ rfl⟩
    · cases hq; exact ⟨25, _, _, rfl, tp _ _ rfl⟩
    · cases hq; exact ⟨26, _, _, rfl, tp _ _ rfl⟩
    · cases hq; exact ⟨27, _, _, rfl, tp _ _ rfl⟩
    · cases hq; exact ⟨28, _, _, rfl, tp _ _ rfl⟩
  | 1, _ => obtain ⟨vs, a, b⟩ := one 31 30 (256, "r") _ _ rfl rfl; exact ⟨31, vs, rfl, a, b⟩
  | 2, _ => obtain ⟨vs, a, b⟩ := one 33 32 (128, "w") _ _ rfl rfl; exact ⟨33, vs, rfl, a, b⟩
  | 3, _ => obtain ⟨vs, a, b⟩ := three 37 34 35 36 (2112, "s") (2048, "S") (64, "x") _ _ _ _ _ _ rfl rfl rfl rfl; exact ⟨37, vs, rfl, a, b⟩
  | 4, _ => obtain ⟨vs, a, b⟩ := one 39 38 (32, "r") _ _ rfl rfl; exact ⟨39, vs, rfl, a, b⟩
  | 5, _ => obtain ⟨vs, a, b⟩ := one 41 40 (16, "w") _ _ rfl rfl; exact ⟨41, vs, rfl, a, b⟩
  | 6, _ => obtain ⟨vs, a, b⟩ := three 45 42 43 44 (1032, "s") (1024, "S") (8, "x") _ _ _ _ _ _ rfl rfl rfl rfl; exact ⟨45, vs, rfl, a, b⟩
  | 7, _ => obtain ⟨vs, a, b⟩ := one 47 46 (4, "r") _ _ rfl rfl; exact ⟨47, vs, rfl, a, b⟩
  | 8, _ => obtain ⟨vs, a, b⟩ := one 49 48 (2, "w") _ _ rfl rfl; exact ⟨49, vs, rfl, a, b⟩
  | 9, _ => obtain ⟨vs, a, b⟩ := three 53 50 51 52 (513, "t") (512, "T") (1, "x") _ _ _ _ _ _ rfl rfl rfl rfl; exact ⟨53, vs, rfl, a, b⟩
end Mine

-- S8
namespace Mine
open PySem PySem.W PyProof.Rows PySem.Spec PySem.Calls
local macro_rules | `(tactic| walk_at $s:str) => if ["exec For Tuple Call cons nil", "exec For Tuple Call", "exec For Tuple Name cons cons", "exec For Tuple Name", "call type:enumerate", "call type:enumerate cons nil", "call builtin:str.join", "pyIter ref", "call builtin:list.append", "getMethod ref"].contains s.getString then `(tactic| (refine stop_intro ?_)) else Lean.Macro.throwUnsupported
theorem signAt_size (m : Int) (k : Nat) : (signAt m k).cps.size = 1 := by
  unfold signAt
  split
  · rename_i p hp
    have hm := List.mem_of_find?_eq_some hp
    rcases Nat.lt_or_ge k 10 with h | h
    · have : ∀ k : Fin 10, ∀ p ∈ tabP.getD k.1 [], p.2.cps.size = 1 := by decide +kernel
      exact this ⟨k, h⟩ p hm
    · have e : tabP.getD k [] = [] := by
        have : tabP.length ≤ k := h
        simp [List.getD, List.getElem?_eq_none this]
      rw [e] at hm; cases hm
  · split <;> decide +kernel
theorem join_fm (m : Int) : JoinOk (Str.ofString "") (signsTo m tabI.size) = true := by
  refine joinOk_of ?_
  have e : signsTo m tabI.size = [signAt m 0, signAt m 1, signAt m 2, signAt m 3, signAt m 4, signAt m 5, signAt m 6, signAt m 7, signAt m 8, signAt m 9] := rfl
  have h : ∀ k, (signAt m k).length = 1 := signAt_size m
  rw [e]
  simp only [List.map_cons, List.map_nil, List.sum_cons, List.sum_nil, List.length_cons, List.length_nil, h]
  have : (Str.ofString "").length = 0 := by decide +kernel
  rw [this]
  decide
noncomputable abbrev sList (l : List (Str × Tok)) (cap : Nat) : Obj := ⟨.type "list", none, .seq (strValues l).toArray cap, #[]⟩
theorem sList_push {l : List (Str × Tok)} {cap : Nat} {c : Str} {tc : Tok} {h : Heap} {a : Addr} (e : h.get? a = some { cls := .type "list", data := .seq ((strValues l).toArray.push (.str c tc)) (cap + 1) }) : h.get? a = some (sList (l ++ [(c, tc)]) (cap + 1)) := by
  rw [e]; simp [strValues, sList]
theorem sList_size {l : List (Str × Tok)} {m : Int} {k : Nat} (hl : l.map (·.1) = signsTo m k) (hk : k ≤ 10) : (strValues l).toArray.size ≤ sizeLine := by
  have : l.length = k := by rw [← List.length_map (f := (·.1)), hl]; simp [signsTo]
  rw [sizeLine_eq]; simp [strValues]; omega
theorem sif_spec {w : World} {mg mb : Str → Option Value} {s : Shared} {A : Around} {Q E : Value → Shared → Prop} {m : Int} {t0 : Tok}
    (G : Gd w mg mb s.heap) (rm : Rm A 320 220)
    (hq : ∀ h' tk t, Kf s.heap h' → Q (.int (Builtin.bitAnd m 61440) t) (Sh s h' tk)) :
    wpAny (model PG w) A (call (.ref 21) [.int m t0]) Q E s := by
  have : PySem.Challenge.rw_mr0153_01.Holds → (hd.heap_39 w.params).In s.heap → True := by (k_fill; intros; trivial)
  clear this
  refine rm.any ?_
  refine' enter (binds := [("mode", .int m t0)]) (Bs.self s.heap) G.nolimit (G.inH _ _ ?k1) (codeRec_of G.inH ?k2) ?k3 ?k4 ?k5 ?_ ?k6 ?k7 ?k8 ?k9
  case k1 => k_is
  case k2 => k_is
  case k3 => decide
  case k4 => exact BindsTo.of_eq rfl
  case k5 => exact locs rfl
  case k6 => decide
  case k7 => rfl
  case k8 => rfl
  case k9 => rfl
  intro L h₁ F hL kf
  have X := G.inH
  obtain ⟨lo, mn, TP'⟩ := G.T
  have TP := TP'.keeps (fun b o e => (gh_get.mp e).1)
  clear TP'
  have N : News s.heap L h₁ [] := News.nil
  k_steps
  exact hq _ _ _ kf
theorem signAt_hit {m : Int} {k j : Nat} {p : Int × Str} (hp : (tabP.getD k [])[j]? = some p) (hno : ∀ i q, i < j → (tabP.getD k [])[i]? = some q → fits k m q = false) (hf : fits k m p = true) : p.2 = signAt m k := by
  unfold signAt
  have : (tabP.getD k []).find? (fits k m) = some p := by
    revert hp hno
    generalize tabP.getD k [] = l
    induction l generalizing j with
    | nil => intro h; simp at h
    | cons a r ih =>
      intro hp hno
      cases j with
      | zero => simp at hp; subst hp; simp [hf]
      | succ j =>
        have ha := hno 0 a (Nat.succ_pos _) rfl
        rw [List.find?_cons_of_neg (by simp [ha])]
        exact ih (j := j) hp fun i q hi hq => hno (i + 1) q (Nat.succ_lt_succ hi) hq
  rw [this]
theorem signAt_none {m : Int} {k : Nat} (hno : ∀ i q, i < (tabP.getD k []).length → (tabP.getD k [])[i]? = some q → fits k m q = false) : signAt m k = if k = 0 then Str.ofString "?" else Str.ofString "-" := by
  unfold signAt
  have : (tabP.getD k []).find? (fits k m) = none := by
    rw [List.find?_eq_none]
    intro q hq
    obtain ⟨i, hi, e⟩ := List.mem_iff_getElem.mp hq
    rw [hno i q hi (by rw [List.getElem?_eq_getElem hi, e])]
    simp
  rw [this]
noncomputable abbrev namesS8 : List Str := ["perm", "index", "table", "bit", "char", "mode"]
theorem fm_spec {w : World} {mg mb : Str → Option Value} {s : Shared} {A : Around} {Q E : Value → Shared → Prop} {m : Int} {t0 : Tok}
    (G : Gd w mg mb s.heap) (rm : Rm A 310 200)
    (hq : ∀ h' tk t, Kf s.heap h' → Q (.str (rowOf m) t) (Sh s h' tk)) :
    wpAny (model PG w) A (call (.ref 61) [.int m t0]) Q E s := by
  have : PySem.Challenge.rw_mr0153_01.Holds → (hd.heap_39 w.params).In s.heap → True := by (k_fill; intros; trivial)
  clear this
  refine rm.any ?_
  refine' enter (binds := [("mode", .int m t0)]) (Bs.self s.heap) G.nolimit (G.inH _ _ ?k1) (codeRec_of G.inH ?k2) ?k3 ?k4 ?k5 ?_ ?k6 ?k7 ?k8 ?k9
  case k1 => k_is
  case k2 => k_is
  case k3 => decide
  case k4 => exact BindsTo.of_eq rfl
  case k5 => exact locs rfl
  case k6 => decide
  case k7 => rfl
  case k8 => rfl
  case k9 => rfl
  intro L h₁ F hL kf
  have X := G.inH
  obtain ⟨lo, mn, TP'⟩ := G.T
  have TP := TP'.keeps (fun b o e => (gh_get.mp e).1)
  clear TP'
  have N : News s.heap L h₁ [] := News.nil
  k_steps
  refine Stop.go (wpAny_For ?_)
  k_steps
  rename Fr _ _ _ _ => F1
  rename News _ _ _ _ => N1
  rename_i pA h2 lp1 lp2
  obtain ⟨tb, pairs⟩ := pairs_at X
  have kb : ∀ {H : Heap} {mm : Str → Option Value}, Fr s.heap L H mm → H.IsTuple 54 tabI := fun F => Heap.IsTuple.at tb fun o e => F.keep _ _ e
  refine Stop.go (call_enumerate_tuple (kb F1) ?_)
  intro h3 en3 it3 sz3 k3
  have F3 := keepsF F1 k3
  have N3 : News s.heap L h3 _ := fun p hp => ⟨k3 _ _ (N1 p hp).1, (N1 p hp).2⟩
  k_steps
  refine Stop.go (wpAny_pyIter_enum en3 ?_)
  dsimp only at en3 it3 sz3
  have bp : @LT.lt Nat _ pA lp2.objs.size := Heap.lt_size (N1 _ (.head _)).1
  have bL : @LT.lt Nat _ L lp2.objs.size := F1.ns.lt
  have bs : ∀ b : Nat, lp2.objs.size ≤ b → s.heap.get? b = none := fun b hb => Heap.get?_none_of_le (Nat.le_trans F1.above (Nat.le_trans (Nat.le_of_lt bL) hb))
  have b54 : @LT.lt Nat _ 54 lp2.objs.size := by obtain ⟨o, e, _⟩ := kb F1; exact Heap.lt_size e
  generalize hz : lp2.objs.size = z at *
  clear F1 N1 sz3 k3
  simp only [lookup_lkO, List.reverse_cons, List.reverse_nil, List.nil_append, List.map_cons, List.map_nil, set_lkO] at F3
  have N3' : ∃ cap, h3.get? pA = some (sList [] cap) ∧ pA ≠ L ∧ s.heap.get? pA = none := ⟨_, (N3 _ (.head _)).1, (N3 _ (.head _)).2⟩
  obtain ⟨cap3, n3a, n3b, n3c⟩ := N3'
  clear N3
  refine letter2 (fun (k : Nat) (s' : Shared) (QQ : Prop) => ∀ (h' : Heap) (tk : Nat) (l : List (Str × Tok)) (cap : Nat) (oi ot ob oc : Option Value), s' = Sh s h' tk → (Fr s.heap L h' fun y => lkO [("perm", some (.ref pA)), ("mode", some (.int m t0)), ("index", oi), ("table", ot), ("bit", ob), ("char", oc)] y) → h'.get? pA = some (sList l cap) → (l.map (·.1) = signsTo m k) → (∃ old, IsEnum h' (z + 1) z (k : Nat) old) → h'.IsTupleIter z 54 k → QQ) ?_
  intro I1 mkI1 unI1
  refine for_enumT (e := z + 1) (it := z) (l := 54) (items := tabI) rfl (Nat.succ_ne_self z) (Nat.ne_of_lt b54) (Nat.ne_of_gt (Nat.lt_succ_of_lt b54))
    I1 ?_ ?_ ?_ ?_
  · exact mkI1 _ _ fun QQ qq => qq h3 _ [] cap3 none none none none rfl (Fr.mapA namesS8 F3 rfl rfl (by repeat' (first | exact True.intro | refine And.intro rfl ?_))) n3a rfl ⟨_, en3⟩ it3
  · intro k s' hy
    refine unI1 _ _ _ hy ?_
    clear hy
    rintro h' tk l cap oi ot ob oc rfl F ep hl he hi
    exact ⟨he, hi, kb F⟩
  · intro k s' h4 tk4 u x hx hy he4 hi4 kx4
    refine unI1 _ _ _ hy ?_
    clear hy
    rintro h' tk l cap oi ot ob oc rfl F ep hl he hi
    have hk : k < 10 := (Array.getElem?_eq_some_iff.mp hx).1
    obtain ⟨a, vs, ea, ta, pp⟩ := pairs k hk
    rw [hx] at ea
    cases ea
    dsimp only [Sh] at kx4 ⊢
    have ni : ∀ b : Nat, b < z → b ∉ [z + 1, z] := fun b hb hm => by
      rcases List.mem_cons.mp hm with q | hm
      · omega
      · have : b = z := List.mem_singleton.mp hm
        omega
    have F4 : Fr s.heap L h4 _ := ⟨F.ns.at' fun o e => kx4 _ _ (ni _ bL) e, fun b o e => kx4 _ _ (ni _ (by
      rcases Nat.lt_or_ge b z with q | q
      · exact q
      · rw [bs b q] at e; cases e)) (F.keep _ _ e), F.above⟩
    obtain ⟨oE, oe, hbE⟩ : ∃ oE, h4.get? (z + 1) = some oE ∧ ∀ H : Heap, H.get? (z + 1) = some oE → ∃ old, IsEnum H (z + 1) z ((k + 1 : Nat) : Int) old := by
      obtain ⟨old, oe⟩ := he4
      exact ⟨_, oe, fun H e => ⟨old, e⟩⟩
    obtain ⟨oi', eoi, coi, doi⟩ := id hi4
    have N4 : News s.heap L h4 [(pA, sList l cap), (z + 1, oE), (z, oi')] := by
      intro p hp
      rcases List.mem_cons.mp hp with rfl | hp
      · exact ⟨kx4 _ _ (ni _ bp) ep, n3b, n3c⟩
      rcases List.mem_cons.mp hp with rfl | hp
      · exact ⟨oe, Nat.ne_of_gt (Nat.lt_succ_of_lt bL), bs _ (Nat.le_succ z)⟩
      rcases List.mem_cons.mp hp with rfl | hp
      · exact ⟨eoi, Nat.ne_of_gt bL, bs _ (Nat.le_refl z)⟩
      · cases hp
    clear F he hi kx4 eoi
    k_steps
    refine Stop.go (wpAny_For ?_)
    k_steps
    rename Fr _ _ _ _ => F5
    rename News _ _ _ _ => N5
    simp only [set_lkO] at F5
    have ta' : ∀ {H : Heap} {mm : Str → Option Value}, Fr s.heap L H mm → H.IsTuple a vs ∧ PairsT H vs (tabP.getD k []) := fun F => ⟨Heap.IsTuple.at ta fun o e => F.keep _ _ e, pp.kf F.keep⟩
    have fin : ∀ {h' h'' : Heap} {tk : Nat} {c : Str} {tc : Tok} {oi ot ob oc : Option Value}, (Fr s.heap L h' fun y => lkO [("perm", some (.ref pA)), ("mode", some (.int m t0)), ("index", oi), ("table", ot), ("bit", ob), ("char", oc)] y) →
        News s.heap L h' [(pA, sList l cap), (z + 1, oE), (z, oi')] → Heap.SameBut pA h' h'' → h''.get? pA = some (sList (l ++ [(c, tc)]) (cap + 1)) → c = signAt m k →
        I1 (k + 1) (Sh s h'' tk) := by
      intro h' h'' tk c tc oi ot ob oc F N sb ep hc
      refine mkI1 _ _ fun QQ qq => qq h'' tk (l ++ [(c, tc)]) (cap + 1) oi ot ob oc rfl (F.change sb n3b n3c) ep ?_ ?_ ?_
      · rw [List.map_append, hl, signsTo_succ, hc]; rfl
      · exact hbE _ (sb.extBut _ _ (Nat.ne_of_gt (Nat.lt_succ_of_lt bp)) (N _ (.tail _ (.head _))).1)
      · exact ⟨oi', sb.extBut _ _ (Nat.ne_of_gt bp) (N _ (.tail _ (.tail _ (.head _)))).1, coi, doi⟩
    refine letter3 (fun (ip : Addr) (j : Nat) (s' : Shared) (QQ : Prop) => ∀ (h' : Heap) (tk : Nat) (ob oc : Option Value) (op : Obj), s' = Sh s h' tk → (Fr s.heap L h' fun y => lkO [("perm", some (.ref pA)), ("mode", some (.int m t0)), ("index", some (.int (k : Nat) u)), ("table", some (.ref a)), ("bit", ob), ("char", oc)] y) → News s.heap L h' [(pA, sList l cap), (z + 1, oE), (z, oi'), (ip, op)] → h'.IsTupleIter ip a j → @LT.lt Nat _ (z + 1) ip → (∀ i p, i < j → (tabP.getD k [])[i]? = some p → fits k m p = false) → QQ) ?_
    intro I2 mkI2 unI2
    refine Stop.go (for_pairsT (ps := tabP.getD k []) rfl (ta' F5).1
      I2 ?_ ?_ ?_ ?_)
    · rintro ip h' rfl kI hip
      obtain ⟨op, eop, r⟩ := id hip
      dsimp only at eop
      have lz := Heap.lt_size (N5 _ (.tail _ (.head _))).1
      refine mkI2 _ _ _ fun QQ qq => qq h' _ _ _ op rfl (Fr.mapA namesS8 (keepsF F5 kI) rfl rfl (by repeat' (first | exact True.intro | refine And.intro rfl ?_))) ?_ hip lz (fun i p hi => absurd hi (Nat.not_lt_zero _))
      intro p hp
      rcases List.mem_cons.mp hp with rfl | hp
      · exact ⟨kI _ _ (N5 _ (.head _)).1, (N5 _ (.head _)).2⟩
      rcases List.mem_cons.mp hp with rfl | hp
      · exact ⟨kI _ _ (N5 _ (.tail _ (.head _))).1, (N5 _ (.tail _ (.head _))).2⟩
      rcases List.mem_cons.mp hp with rfl | hp
      · exact ⟨kI _ _ (N5 _ (.tail _ (.tail _ (.head _)))).1, (N5 _ (.tail _ (.tail _ (.head _)))).2⟩
      rcases List.mem_cons.mp hp with rfl | hp
      · exact ⟨eop, Nat.ne_of_gt F5.ns.lt, Heap.get?_none_of_le (Nat.le_trans F5.above (Nat.le_of_lt F5.ns.lt))⟩
      · cases hp
    · intro ip j s' hy
      refine unI2 _ _ _ _ hy ?_
      clear hy
      rintro h' tk ob oc op rfl F N hip _ _
      exact ⟨hip, ta' F⟩
    · intro ip j s' h6 p t1 t2 hp hy hip6 kx6
      refine unI2 _ _ _ _ hy ?_
      clear hy
      rintro h' tk ob oc op rfl F N hip lz hno
      dsimp only [Sh] at kx6 ⊢
      have nip : ∀ b : Nat, b ≠ ip → b ∉ [ip] := fun b hb hm => hb (List.mem_singleton.mp hm)
      have n4 := (N _ (.tail _ (.tail _ (.tail _ (.head _))))).2
      have F6 : Fr s.heap L h6 _ := ⟨F.ns.at' fun o e => kx6 _ _ (nip _ (Ne.symm n4.1)) e, fun b o e => kx6 _ _ (nip _ (fun q => by rw [q, n4.2] at e; cases e)) (F.keep _ _ e), F.above⟩
      obtain ⟨op6, eop6, cop6, dop6⟩ := id hip6
      have N6 : News s.heap L h6 [(pA, sList l cap), (z + 1, oE), (z, oi'), (ip, op6)] := by
        intro p hp
        rcases List.mem_cons.mp hp with rfl | hp
        · exact ⟨kx6 _ _ (nip _ (Nat.ne_of_lt (Nat.lt_trans (Nat.lt_succ_of_lt bp) lz))) (N _ (.head _)).1, (N _ (.head _)).2⟩
        rcases List.mem_cons.mp hp with rfl | hp
        · exact ⟨kx6 _ _ (nip _ (Nat.ne_of_lt lz)) (N _ (.tail _ (.head _))).1, (N _ (.tail _ (.head _))).2⟩
        rcases List.mem_cons.mp hp with rfl | hp
        · exact ⟨kx6 _ _ (nip _ (Nat.ne_of_lt (Nat.lt_trans (Nat.lt_succ_self z) lz))) (N _ (.tail _ (.tail _ (.head _)))).1, (N _ (.tail _ (.tail _ (.head _)))).2⟩
        rcases List.mem_cons.mp hp with rfl | hp
        · exact ⟨eop6, n4⟩
        · cases hp
      clear F N F5 N5 kx6 eop6
      have nx : ∀ {H : Heap} {tk : Nat} {ob oc : Option Value}, (Fr s.heap L H fun y => lkO [("perm", some (.ref pA)), ("mode", some (.int m t0)), ("index", some (.int (k : Nat) u)), ("table", some (.ref a)), ("bit", ob), ("char", oc)] y) →
          News s.heap L H [(pA, sList l cap), (z + 1, oE), (z, oi'), (ip, op6)] → fits k m p = false →
          I2 ip (j + 1) (Sh s H tk) := by
        intro H tk ob oc F N hf
        refine mkI2 _ _ _ fun QQ qq => qq H tk ob oc op6 rfl F N ⟨op6, (N _ (.tail _ (.tail _ (.tail _ (.head _))))).1, cop6, dop6⟩ lz (fun i q hi hq => ?_)
        rcases Nat.lt_or_ge i j with h | h
        · exact hno i q h hq
        · obtain rfl : i = j := by omega
          rw [hp] at hq; cases hq; exact hf
      k_steps
      · rename Fr _ _ _ _ => F7
        rename News _ _ _ _ => N7
        rename ((k : Int) = 0) => hk0
        obtain rfl : k = 0 := by omega
        refine sif_spec (G.kp (Kf.kp F7.keep)) (Rm.deeper (by decide) (by decide)) ?_
        intro h8 tk8 t8 k8
        have F8 := keepsF F7 k8
        have N8 : News s.heap L h8 [(pA, sList l cap), (z + 1, oE), (z, oi'), (ip, op6)] := fun p hp => ⟨k8 _ _ (N7 p hp).1, (N7 p hp).2⟩
        clear F7 N7
        dsimp only [Sh]
        k_steps
        · rename (Builtin.bitAnd m 61440 = p.1) => heq
          refine Stop.go (Calls.getMethod_list_append (N8 _ (.head _)).1 rfl rfl ?_)
          dsimp only
          refine callWith_method1 ?_
          k_steps
          refine Stop.go (append_at (N8 _ (.head _)).1 ?_ (sList_size hl (by omega)))
          intro h9 s9 e9
          have e9' := sList_push e9
          simp only [set_lkO] at F8
          have F9 := F8.change s9 n3b n3c
          have N9 : News s.heap L h9 [] := News.nil
          have N0 : News s.heap L _ [(pA, sList l cap), (z + 1, oE), (z, oi')] := fun p hp => N8 p (by
            rcases List.mem_cons.mp hp with rfl | hp
            · exact .head _
            rcases List.mem_cons.mp hp with rfl | hp
            · exact .tail _ (.head _)
            rcases List.mem_cons.mp hp with rfl | hp
            · exact .tail _ (.tail _ (.head _))
            · cases hp)
          k_steps
          refine Stop.go (fin (Fr.mapA namesS8 F8 rfl rfl (by repeat' (first | exact True.intro | refine And.intro rfl ?_))) N0 s9 e9' ?_)
          refine signAt_hit hp hno ?_
          unfold fits
          rw [if_pos rfl]
          exact beq_iff_eq.mpr heq
        · rename (Builtin.bitAnd m 61440 ≠ p.1) => hne
          simp only [set_lkO] at F8
          refine Stop.go (nx (Fr.mapA namesS8 F8 rfl rfl (by repeat' (first | exact True.intro | refine And.intro rfl ?_))) N8 ?_)
          unfold fits
          rw [if_pos rfl]
          exact beq_eq_false_iff_ne.mpr hne
      · rename Fr _ _ _ _ => F7
        rename News _ _ _ _ => N7
        rename (Builtin.bitAnd m p.1 = p.1) => heq
        refine Stop.go (Calls.getMethod_list_append (N7 _ (.head _)).1 rfl rfl ?_)
        dsimp only
        refine callWith_method1 ?_
        k_steps
        refine Stop.go (append_at (N7 _ (.head _)).1 ?_ (sList_size hl (by omega)))
        intro h9 s9 e9
        have e9' := sList_push e9
        simp only [set_lkO] at F7
        have F9 := F7.change s9 n3b n3c
        have N9 : News s.heap L h9 [] := News.nil
        have N0 : News s.heap L _ [(pA, sList l cap), (z + 1, oE), (z, oi')] := fun p hp => N7 p (by
          rcases List.mem_cons.mp hp with rfl | hp
          · exact .head _
          rcases List.mem_cons.mp hp with rfl | hp
          · exact .tail _ (.head _)
          rcases List.mem_cons.mp hp with rfl | hp
          · exact .tail _ (.tail _ (.head _))
          · cases hp)
        k_steps
        refine Stop.go (fin (Fr.mapA namesS8 F7 rfl rfl (by repeat' (first | exact True.intro | refine And.intro rfl ?_))) N0 s9 e9' ?_)
        refine signAt_hit hp hno ?_
        unfold fits
        rw [if_neg (by omega)]
        exact beq_iff_eq.mpr heq
      · rename Fr _ _ _ _ => F7
        rename News _ _ _ _ => N7
        rename (Builtin.bitAnd m p.1 ≠ p.1) => hne
        simp only [set_lkO] at F7
        refine Stop.go (nx (Fr.mapA namesS8 F7 rfl rfl (by repeat' (first | exact True.intro | refine And.intro rfl ?_))) N7 ?_)
        unfold fits
        rw [if_neg (by omega)]
        exact beq_eq_false_iff_ne.mpr hne
    · intro ip s' h6 hy xb
      refine unI2 _ _ _ _ hy ?_
      clear hy
      rintro h' tk ob oc op rfl F N hip lz hno
      have n4 := (N _ (.tail _ (.tail _ (.tail _ (.head _))))).2
      have F6 : Fr s.heap L h6 _ := ⟨F.ns.at' fun o e => xb _ _ (Ne.symm n4.1) e, fun b o e => xb _ _ (fun q => by rw [q, n4.2] at e; cases e) (F.keep _ _ e), F.above⟩
      have N6 : News s.heap L h6 [(pA, sList l cap), (z + 1, oE), (z, oi')] := by
        intro p hp
        rcases List.mem_cons.mp hp with rfl | hp
        · exact ⟨xb _ _ (Nat.ne_of_lt (Nat.lt_trans (Nat.lt_succ_of_lt bp) lz)) (N _ (.head _)).1, (N _ (.head _)).2⟩
        rcases List.mem_cons.mp hp with rfl | hp
        · exact ⟨xb _ _ (Nat.ne_of_lt lz) (N _ (.tail _ (.head _))).1, (N _ (.tail _ (.head _))).2⟩
        rcases List.mem_cons.mp hp with rfl | hp
        · exact ⟨xb _ _ (Nat.ne_of_lt (Nat.lt_trans (Nat.lt_succ_self z) lz)) (N _ (.tail _ (.tail _ (.head _)))).1, (N _ (.tail _ (.tail _ (.head _)))).2⟩
        · cases hp
      clear F N F5 N5
      dsimp only [Sh]
      k_steps
      · rename ((k : Int) = 0) => hk0
        obtain rfl : k = 0 := by omega
        refine Stop.go (Calls.getMethod_list_append (N6 _ (.head _)).1 rfl rfl ?_)
        dsimp only
        refine callWith_method1 ?_
        k_steps
        refine Stop.go (append_at (N6 _ (.head _)).1 ?_ (sList_size hl (by omega)))
        intro h9 s9 e9
        have e9' := sList_push e9
        try simp only [set_lkO] at F6
        have F9 := F6.change s9 n3b n3c
        have N9 : News s.heap L h9 [] := News.nil
        have N0 : News s.heap L _ [(pA, sList l cap), (z + 1, oE), (z, oi')] := fun p hp => N6 p (by
          rcases List.mem_cons.mp hp with rfl | hp
          · exact .head _
          rcases List.mem_cons.mp hp with rfl | hp
          · exact .tail _ (.head _)
          rcases List.mem_cons.mp hp with rfl | hp
          · exact .tail _ (.tail _ (.head _))
          · cases hp)
        k_steps
        refine Stop.go (fin (Fr.mapA namesS8 F6 rfl rfl (by repeat' (first | exact True.intro | refine And.intro rfl ?_))) N0 s9 e9' ?_)
        rw [signAt_none hno, if_pos rfl]
      · rename ((k : Int) ≠ 0) => hk0
        refine Stop.go (Calls.getMethod_list_append (N6 _ (.head _)).1 rfl rfl ?_)
        dsimp only
        refine callWith_method1 ?_
        k_steps
        refine Stop.go (append_at (N6 _ (.head _)).1 ?_ (sList_size hl (by omega)))
        intro h9 s9 e9
        have e9' := sList_push e9
        try simp only [set_lkO] at F6
        have F9 := F6.change s9 n3b n3c
        have N9 : News s.heap L h9 [] := News.nil
        have N0 : News s.heap L _ [(pA, sList l cap), (z + 1, oE), (z, oi')] := fun p hp => N6 p (by
          rcases List.mem_cons.mp hp with rfl | hp
          · exact .head _
          rcases List.mem_cons.mp hp with rfl | hp
          · exact .tail _ (.head _)
          rcases List.mem_cons.mp hp with rfl | hp
          · exact .tail _ (.tail _ (.head _))
          · cases hp)
        k_steps
        refine Stop.go (fin (Fr.mapA namesS8 F6 rfl rfl (by repeat' (first | exact True.intro | refine And.intro rfl ?_))) N0 s9 e9' ?_)
        rw [signAt_none hno, if_neg (by omega)]
  · intro s' h6 tk6 hy kx6
    refine unI1 _ _ _ hy ?_
    clear hy
    rintro h' tk l cap oi ot ob oc rfl F ep hl he hi
    dsimp only [Sh] at kx6 ⊢
    have ni : ∀ b : Nat, b < z → b ∉ [z + 1, z] := fun b hb hm => by
      rcases List.mem_cons.mp hm with q | hm
      · omega
      · have : b = z := List.mem_singleton.mp hm
        omega
    have F6 : Fr s.heap L h6 _ := ⟨F.ns.at' fun o e => kx6 _ _ (ni _ bL) e, fun b o e => kx6 _ _ (ni _ (by
      rcases Nat.lt_or_ge b z with q | q
      · exact q
      · rw [bs b q] at e; cases e)) (F.keep _ _ e), F.above⟩
    have N6 : News s.heap L h6 [] := News.nil
    have ep6 := kx6 _ _ (ni _ bp) ep
    clear F
    have ls6 : h6.IsList pA (strValues l).toArray := ⟨_, ep6, rfl, _, rfl⟩
    k_steps
    refine Stop.go (SC.join ls6 hl (join_fm m) fun tJ kJ => ?_)
    k_steps
    exact hq _ _ _ F6.keep
end Mine

-- S9
namespace Mine
open PySem PySem.W PyProof.Rows PySem.Spec PySem.Calls
noncomputable def sgT : List Str := ["?pcdb-ls", "-r", "-w", "-xSs", "-r", "-w", "-xSs", "-r", "-w", "-xTt"]
noncomputable def kindV : List Int := [0, 1, 2, 4, 6, 8, 10, 12]
noncomputable def bitsF (k j : Nat) : Int := if k = 0 then kindV.getD j 0 * 4096 else ((j % 2 * 2 ^ (9 - k) + j / 2 * 2 ^ (12 - k / 3) : Nat) : Int)
local macro_rules | `(tactic| walk_at "-") => Lean.Macro.throwUnsupported
local macro_rules | `(tactic| walk_at $s:str) => if ["compareOp NotIn str str", "call builtin:str.index"].contains s.getString then `(tactic| (refine stop_intro ?_)) else Lean.Macro.throwUnsupported
theorem index_fin {k j c : Nat} (hk : k < 10) (hc : (sgT.getD k Str.empty).cps[j]? = some c) : j < 8 ∧ Builtin.Str.occurrences (sgT.getD k Str.empty) ⟨#[c]⟩ 0 (sgT.getD k Str.empty).length 1 = [j] := by
  have h8 : ∀ k : Fin 10, (sgT.getD k.1 Str.empty).cps.size ≤ 8 := by decide +kernel
  have ho : ∀ k : Fin 10, ∀ j : Fin 8, ((sgT.getD k.1 Str.empty).cps[j.1]?).all (fun c => Builtin.Str.occurrences (sgT.getD k.1 Str.empty) ⟨#[c]⟩ 0 (sgT.getD k.1 Str.empty).length 1 == [j.1]) = true := by decide +kernel
  have hj : j < 8 := by
    have h1 := (Array.getElem?_eq_some_iff.mp hc).1
    have h2 := h8 ⟨k, hk⟩
    dsimp only at h2
    omega
  have h := ho ⟨k, hk⟩ ⟨j, hj⟩
  dsimp only at h
  rw [hc] at h
  exact ⟨hj, beq_iff_eq.mp h⟩
theorem bits_fin {k j : Nat} (hk : k < 10) (h0 : k ≠ 0) (hj : j < 8) : bitsF k j = ((j : Int).fmod 2 * 2 ^ (9 - (k : Int)).toNat + (j : Int).fdiv 2 * 2 ^ (12 - (k : Int).fdiv 3).toNat) := by
  have : ∀ k : Fin 10, ∀ j : Fin 8, k.1 ≠ 0 → bitsF k.1 j.1 = ((j.1 : Int).fmod 2 * 2 ^ (9 - (k.1 : Int)).toNat + (j.1 : Int).fdiv 2 * 2 ^ (12 - (k.1 : Int).fdiv 3).toNat) := by decide +kernel
  exact this ⟨k, hk⟩ ⟨j, hj⟩ h0
theorem bits_spec {w : World} {mg mb : Str → Option Value} {s : Shared} {A : Around} {Q E : Value → Shared → Prop} {k j c : Nat} {t0 t1 : Tok}
    (G : Gd w mg mb s.heap) (rm : Rm A 310 220) (hk : k < 10) (hc : (sgT.getD k Str.empty).cps[j]? = some c)
    (hq : ∀ h' tk t, Kf s.heap h' → Q (.int (bitsF k j) t) (Sh s h' tk)) :
    wpAny (model PG w) A (call (.ref 101) [.int (k : Nat) t0, .str ⟨#[c]⟩ t1]) Q E s := by
  have : PySem.Challenge.rw_mr0153_01.Holds → (hd.heap_39 w.params).In s.heap → True := by (k_fill; intros; trivial)
  clear this
  refine rm.any ?_
  refine' enter (binds := [("cell", .int (k : Nat) t0), ("sign", .str ⟨#[c]⟩ t1)]) (Bs.self s.heap) G.nolimit (G.inH _ _ ?k1) (codeRec_of G.inH ?k2) ?k3 ?k4 ?k5 ?_ ?k6 ?k7 ?k8 ?k9
  case k1 => k_is
  case k2 => k_is
  case k3 => decide
  case k4 => exact BindsTo.of_eq rfl
  case k5 => exact locs rfl
  case k6 => decide
  case k7 => rfl
  case k8 => rfl
  case k9 => rfl
  have fin : ∀ (v : Int) (t : Tok) (h' : Heap) (tk : Nat), v = bitsF k j → Kf s.heap h' → Q (.int v t) (Sh s h' tk) := by
    rintro v t h' tk rfl kf
    exact hq _ _ _ kf
  clear hq
  intro L h₁ F hL kf
  have X := G.inH
  obtain ⟨lo, mn, TP'⟩ := G.T
  have TP := TP'.keeps (fun b o e => (gh_get.mp e).1)
  clear TP'
  have N : News s.heap L h₁ [] := News.nil
  k_steps
  rename Fr _ _ _ _ => F1
  rename News _ _ _ _ => N1
  have eS : ([Str.ofString "?pcdb-ls", Str.ofString "-r", Str.ofString "-w", Str.ofString "-xSs", Str.ofString "-r", Str.ofString "-w", Str.ofString "-xSs", Str.ofString "-r", Str.ofString "-w", Str.ofString "-xTt"].getD ((k : Int).toNat) Str.empty) = sgT.getD k Str.empty := by rw [Int.toNat_natCast]; rfl
  rw [eS] at F1 ⊢
  obtain ⟨hj8, hoc⟩ := index_fin hk hc
  generalize hS : sgT.getD k Str.empty = S at F1 hc hoc ⊢
  have hin : S.cps.toList.contains c = true := by
    rw [List.contains_iff_mem, Array.mem_toList_iff]
    exact Array.mem_of_getElem? hc
  refine Stop.go (notIn_one ?_)
  rw [hin]
  have j0 : (0 : Int) ≤ (j : Int) := Int.natCast_nonneg _
  have j8 : (j : Int) < 8 := by omega
  have k10 : (k : Int) < 10 := by omega
  k_steps
  · refine Stop.go (SC.index hoc ?_)
    rename ((k : Int) = 0) => hk0
    k_steps
    all_goals (rename Fr _ _ _ _ => F9)
    all_goals (obtain rfl : k = 0 := by omega)
    · obtain rfl : j = 0 := by omega
      exact fin _ _ _ _ (by decide +kernel) F9.keep
    · obtain rfl : j = 1 := by omega
      exact fin _ _ _ _ (by decide +kernel) F9.keep
    · obtain rfl : j = 2 := by omega
      exact fin _ _ _ _ (by decide +kernel) F9.keep
    · obtain rfl : j = 3 := by omega
      exact fin _ _ _ _ (by decide +kernel) F9.keep
    · obtain rfl : j = 4 := by omega
      exact fin _ _ _ _ (by decide +kernel) F9.keep
    · obtain rfl : j = 5 := by omega
      exact fin _ _ _ _ (by decide +kernel) F9.keep
    · obtain rfl : j = 6 := by omega
      exact fin _ _ _ _ (by decide +kernel) F9.keep
    · obtain rfl : j = 7 := by omega
      exact fin _ _ _ _ (by decide +kernel) F9.keep
  · refine Stop.go (SC.index hoc ?_)
    rename ((k : Int) ≠ 0) => hk0
    k_steps
    refine Stop.go (SC.index hoc ?_)
    k_steps
    exact fin _ _ _ _ (bits_fin hk (by omega) hj8).symm F1.keep
end Mine

-- P1
namespace Mine
open PySem PySem.W PyProof.Rows PySem.Spec PySem.Calls
noncomputable def signC (m : Int) (k : Nat) : Nat := (signAt m k).cps.getD 0 0
theorem signAt_c (m : Int) (k : Nat) : signAt m k = ⟨#[signC m k]⟩ := by
  have h := signAt_size m k
  unfold signC
  revert h
  generalize signAt m k = x
  intro h
  obtain ⟨⟨l⟩⟩ := x
  match l, h with
  | [a], _ => rfl
theorem rowOf_list (m : Int) : (rowOf m).cps.toList = [signC m 0, signC m 1, signC m 2, signC m 3, signC m 4, signC m 5, signC m 6, signC m 7, signC m 8, signC m 9] := by
  have e : signsTo m 10 = [signAt m 0, signAt m 1, signAt m 2, signAt m 3, signAt m 4, signAt m 5, signAt m 6, signAt m 7, signAt m 8, signAt m 9] := rfl
  have e0 : (Str.ofString "").cps = #[] := by decide +kernel
  unfold rowOf Txt.join
  rw [e]
  simp only [signAt_c]
  rw [StrLaws.glued_eq_join, ← StrLaws.glued_cons]
  simp only [List.foldl_cons, List.foldl_nil, e0]
  rfl
theorem row_size (m : Int) : (rowOf m).cps.size = 10 := by
  rw [← Array.length_toList, rowOf_list]; rfl
end Mine

-- P2
namespace Mine
open PySem PySem.W PyProof.Rows PySem.Spec PySem.Calls
noncomputable def signs16 : Str := " ?pcdb-lsrwxSTt "
noncomputable def knownM (m : Int) : Bool := [1, 2, 4, 6, 8, 10, 12].any fun x => x == (m.fdiv 4096).fmod 16
noncomputable def dueM (m : Int) : Int := if knownM m then m.fmod 65536 else m.fmod 4096
/-! the runs cover each place whose sign is a letter, once -/
noncomputable def inR (c : Nat) (r : Nat × Nat) : Bool := decide (r.1 ≤ c ∧ c < r.2)
theorem addRuns_count {v : Int} {c : Nat} : ∀ {l : List (Nat × Nat)} {f : Nat → Int}, addRuns v f l c = f c + v * ((l.countP (inR c) : Nat) : Int)
  | [], f => by simp [addRuns]
  | p :: l, f => by
    rw [addRuns, addRuns_count, List.countP_cons]
    unfold addRun
    by_cases h : p.1 ≤ c ∧ c < p.2
    · rw [if_pos h, if_pos (show inR c p = true from decide_eq_true h)]
      rw [Int.natCast_add, Int.mul_add]
      simp only [Int.natCast_one, Int.mul_one]
      omega
    · rw [if_neg h, if_neg (show ¬ inR c p = true from by simp [inR]; omega)]
      simp
theorem skipTo_before {b : Nat → Bool} {want : Bool} : ∀ {k i p : Nat}, i ≤ p → p < skipTo b want k i → b p ≠ want
  | 0, i, p, h1, h2 => by simp only [skipTo] at h2; omega
  | k + 1, i, p, h1, h2 => by
    unfold skipTo at h2
    split at h2
    · omega
    · rename_i hne
      rcases Nat.eq_or_lt_of_le h1 with rfl | h
      · exact hne
      · exact skipTo_before (k := k) (i := i + 1) h h2
theorem skipTo_all {b : Nat → Bool} {want : Bool} {k i : Nat} : skipTo b want k i ≤ i + k := (skipTo_ge b want k i).2
theorem ordd_low {p : Nat} {i : Nat} {l : List (Nat × Nat)} (h : Ordd i l) (hp : p < i) : l.countP (inR p) = 0 := by
  rw [List.countP_eq_zero]
  intro r hr
  have := ordd_mem h r hr
  simp [inR]; omega
theorem runs_count {cs ls : List Nat} : ∀ (k i p : Nat), cs.length - i < k → i ≤ p → p < cs.length → (runsK cs ls k i).countP (inR p) = if ls.contains (cs.getD p 0) then 1 else 0
  | 0, i, p, h, _, _ => by omega
  | k + 1, i, p, h, h1, h2 => by
    unfold runsK
    have hi : i ≤ cs.length := by omega
    generalize hb : (fun i => ls.contains (cs.getD i 0)) = b
    have ebp : ls.contains (cs.getD p 0) = b p := by rw [← hb]
    rw [ebp]
    cases q : runFrom cs ls i with
    | none =>
      have q' := q
      unfold runFrom at q
      simp only [hb] at q
      split at q
      · rename_i he
        generalize hf : skipTo b true (cs.length - i) i = f at *
        have h3 := skipTo_ge b true (cs.length - i) i
        have h4 := skipTo_ge b false (cs.length - f) f
        by_cases hfn : f < cs.length
        · have h5 := skipTo_lt (b := b) (want := true) (n := cs.length) (i := i) (by omega) hi
          rw [hf] at h5
          have h6 := skipTo_lt (b := b) (want := false) (n := cs.length) (i := f) (by omega) (by omega)
          rw [← he, h5] at h6
          cases h6
        · have := skipTo_before (b := b) (want := true) (k := cs.length - i) (i := i) (p := p) h1 (by omega)
          rw [if_neg this]
          rfl
      · cases q
    | some ab =>
      obtain ⟨a, e⟩ := ab
      have hs := runFrom_some hi q
      unfold runFrom at q
      simp only [hb] at q
      split at q
      · cases q
      · cases q
        generalize hf : skipTo b true (cs.length - i) i = f at *
        generalize he : skipTo b false (cs.length - f) f = g at *
        show ((f, g) :: runsK cs ls k g).countP (inR p) = _
        rw [List.countP_cons]
        rcases Nat.lt_or_ge p f with h3 | h3
        · have h4 := skipTo_before (b := b) (want := true) (k := cs.length - i) (i := i) (p := p) h1 (by omega)
          rw [ordd_low (runsK_ord k g (by omega)).1 (by omega), if_neg h4, if_neg (by simp [inR]; omega)]
        · rcases Nat.lt_or_ge p g with h4 | h4
          · have h5 := skipTo_before (b := b) (want := false) (k := cs.length - f) (i := f) (p := p) h3 (by omega)
            rw [ordd_low (runsK_ord k g (by omega)).1 (by omega), if_pos (by simp [inR]; omega), if_pos (by cases q2 : b p with | true => rfl | false => exact absurd q2 h5)]
          · rw [runs_count k g p (by omega) h4 h2, if_neg (show ¬ inR p (f, g) = true from by simp [inR]; omega), ebp]
            omega
theorem cells_count {letters : Str} {rows : List Str} {k p : Nat} (hp : p < 10) (hr : ∀ r ∈ rows, r.cps.size = 10) : ∀ n, n ≤ rows.length →
    ((cellsUp letters rows n).map cellRun).countP (inR (10 * k + p)) = if k < n then (if letters.cps.toList.contains ((rows.getD k Str.empty).cps.toList.getD p 0) then 1 else 0) else 0
  | 0, _ => by simp [cellsUp]
  | n + 1, hn => by
    have ih := cells_count (letters := letters) (k := k) hp hr n (by omega)
    have e : cellsUp letters rows (n + 1) = cellsUp letters rows n ++ ((runsOf letters (rows.getD n Str.empty)).reverse.map fun p => (n, p.1, p.2)) := by
      unfold cellsUp
      rw [List.range_succ, List.flatMap_append]
      simp
    have hz : (rows.getD n Str.empty).cps.size = 10 := by
      have hn' : n < rows.length := by omega
      have : rows.getD n Str.empty = rows[n] := by simp [List.getD, hn']
      rw [this]; exact hr _ (List.getElem_mem hn')
    rw [e, List.map_append, List.countP_append, ih, List.map_map, List.countP_map, List.countP_reverse]
    have hord := runsK_ord (cs := (rows.getD n Str.empty).cps.toList) (ls := letters.cps.toList) ((rows.getD n Str.empty).cps.size + 1) 0 (Nat.zero_le _)
    by_cases hk : k = n
    · subst hk
      rw [if_neg (by omega), if_pos (by omega), Nat.zero_add]
      have hf : (inR (10 * k + p) ∘ cellRun ∘ fun q : Nat × Nat => (k, q.1, q.2)) = inR p := by
        funext q
        simp only [Function.comp, inR, cellRun]
        congr 1
        apply propext
        omega
      rw [hf]
      exact runs_count _ 0 p (by rw [Array.length_toList]; omega) (Nat.zero_le _) (by rw [Array.length_toList, hz]; exact hp)
    · have h0 : (runsOf letters (rows.getD n Str.empty)).countP (inR (10 * k + p) ∘ cellRun ∘ fun q : Nat × Nat => (n, q.1, q.2)) = 0 := by
        rw [List.countP_eq_zero]
        intro q hq
        have h1 := hord.2 q hq
        rw [Array.length_toList, hz] at h1
        intro hcon
        have h2 : 10 * n + q.1 ≤ 10 * k + p ∧ 10 * k + p < 10 * n + q.2 := of_decide_eq_true hcon
        omega
      rw [h0]
      by_cases h : k < n
      · simp only [if_pos h, if_pos (show k < n + 1 by omega), Nat.add_zero]
      · simp only [if_neg h, if_neg (show ¬ k < n + 1 by omega), Nat.add_zero]
noncomputable def hasB (j c : Nat) : Int := if (lettersF j).cps.toList.contains c then 1 else 0
theorem num_at {rows : List Str} {k p : Nat} (hr : ∀ r ∈ rows, r.cps.size = 10) (hk : k < rows.length) (hp : p < 10) :
    numF rows 4 (10 * k + p) = hasB 0 ((rows.getD k Str.empty).cps.toList.getD p 0) + 2 * hasB 1 ((rows.getD k Str.empty).cps.toList.getD p 0) + 4 * hasB 2 ((rows.getD k Str.empty).cps.toList.getD p 0) + 8 * hasB 3 ((rows.getD k Str.empty).cps.toList.getD p 0) := by
  have st : ∀ j, numF rows (j + 1) (10 * k + p) = numF rows j (10 * k + p) + 2 ^ j * hasB j ((rows.getD k Str.empty).cps.toList.getD p 0) := by
    intro j
    show addRuns (2 ^ j) (numF rows j) _ _ = _
    rw [addRuns_count, cells_count hp hr _ (Nat.le_refl _), if_pos hk]
    unfold hasB
    split <;> rfl
  rw [st 3, st 2, st 1, st 0]
  show 0 + _ + _ + _ + _ = _
  omega
theorem sgT_in : ∀ p : Fin 10, ∀ c ∈ (sgT.getD p.1 Str.empty).cps.toList, ∃ q : Fin 16, signs16.cps[q.1]? = some c ∧ hasB 0 c + 2 * hasB 1 c + 4 * hasB 2 c + 8 * hasB 3 c = (q.1 : Int) := by decide +kernel
theorem pl_idx {m : Int} {p : Nat} (hp : p < 10) : ∃ j : Nat, (sgT.getD p Str.empty).cps[j]? = some (signC m p) := by
  suffices h : signC m p ∈ (sgT.getD p Str.empty).cps.toList by
    obtain ⟨j, hj, e⟩ := List.mem_iff_getElem.mp h
    exact ⟨j, by rw [← Array.getElem?_toList, List.getElem?_eq_getElem hj, e]⟩
  unfold signC signAt
  split
  · rename_i q hq
    have hm := List.mem_of_find?_eq_some hq
    have : ∀ p : Fin 10, ∀ q ∈ tabP.getD p.1 [], q.2.cps.getD 0 0 ∈ (sgT.getD p.1 Str.empty).cps.toList := by decide +kernel
    exact this ⟨p, hp⟩ q hm
  · have : ∀ p : Fin 10, (if p.1 = 0 then Str.ofString "?" else Str.ofString "-").cps.getD 0 0 ∈ (sgT.getD p.1 Str.empty).cps.toList := by decide +kernel
    have h2 := this ⟨p, hp⟩
    dsimp only at h2
    split <;> rename_i h3
    · rw [if_pos h3] at h2; exact h2
    · rw [if_neg h3] at h2; exact h2
theorem row_at {m : Int} {p : Nat} (hp : p < 10) : (rowOf m).cps.toList.getD p 0 = signC m p := by
  rw [rowOf_list]
  match p, hp with
  | 0, _ => rfl
  | 1, _ => rfl
  | 2, _ => rfl
  | 3, _ => rfl
  | 4, _ => rfl
  | 5, _ => rfl
  | 6, _ => rfl
  | 7, _ => rfl
  | 8, _ => rfl
  | 9, _ => rfl
theorem pl_num {Ms : List Int} {k p : Nat} {m : Int} (hm : Ms[k]? = some m) (hp : p < 10) : ∃ q : Nat, numF (Ms.map rowOf) 4 (10 * k + p) = (q : Int) ∧ signs16.cps[q]? = some (signC m p) := by
  have hk : k < (Ms.map rowOf).length := by rw [List.length_map]; exact (List.getElem?_eq_some_iff.mp hm).1
  have hrow : (Ms.map rowOf).getD k Str.empty = rowOf m := by
    rw [List.getD_eq_getElem?_getD, List.getElem?_map, hm]; rfl
  rw [num_at (fun r hr => by obtain ⟨m, _, rfl⟩ := List.mem_map.mp hr; exact row_size m) hk hp, hrow, row_at hp]
  obtain ⟨j, hj⟩ := pl_idx (m := m) hp
  obtain ⟨q, e1, e2⟩ := sgT_in ⟨p, hp⟩ (signC m p) (Array.mem_toList_iff.mpr (Array.mem_of_getElem? hj))
  exact ⟨q.1, e2, e1⟩
end Mine

-- P3
namespace Mine
open PySem PySem.W PyProof.Rows PySem.Spec PySem.Calls
/-! the signs give the mode's bits back -/
noncomputable def maskP : List Nat := [61440, 256, 128, 2112, 32, 16, 1032, 4, 2, 513]
theorem and_bit (n i : Nat) : n &&& 2 ^ i = n / 2 ^ i % 2 * 2 ^ i := by
  have e : n / 2 ^ i % 2 = (n.testBit i).toNat := by
    rw [Nat.testBit_eq_decide_div_mod_eq]
    rcases Nat.mod_two_eq_zero_or_one (n / 2 ^ i) with h | h <;> simp [h]
  rw [e]
  apply Nat.eq_of_testBit_eq
  intro k
  rw [Nat.testBit_and, Nat.testBit_two_pow]
  by_cases hik : i = k
  · subst hik
    cases n.testBit i <;> simp [Nat.testBit_two_pow]
  · cases n.testBit i <;> simp [Nat.testBit_two_pow, hik]
theorem band (a b : Nat) : Builtin.bitAnd (a : Int) (b : Int) = ((a &&& b : Nat) : Int) := by
  unfold Builtin.bitAnd
  have h1 : decide ((0 : Int) ≤ (a : Int)) = true := decide_eq_true (Int.natCast_nonneg _)
  have h2 : decide ((0 : Int) ≤ (b : Int)) = true := decide_eq_true (Int.natCast_nonneg _)
  rw [h1, h2]
  simp
theorem sign_mask {n p : Nat} (hp : p < 10) : signAt (n : Int) p = signAt ((n &&& maskP.getD p 0 : Nat) : Int) p := by
  have hf : ∀ q ∈ tabP.getD p [], fits p (n : Int) q = fits p ((n &&& maskP.getD p 0 : Nat) : Int) q := by
    intro q hq
    have hall : ∀ p : Fin 10, ∀ q ∈ tabP.getD p.1 [], 0 ≤ q.1 ∧ (maskP.getD p.1 0 &&& q.1.toNat = q.1.toNat) := by decide +kernel
    obtain ⟨h0, h1⟩ := hall ⟨p, hp⟩ q hq
    dsimp only at h1
    unfold fits
    by_cases h : p = 0
    · subst h
      rw [if_pos rfl, if_pos rfl]
      have e : (61440 : Int) = ((61440 : Nat) : Int) := rfl
      rw [e, band, band, Nat.and_assoc]
      rfl
    · rw [if_neg h, if_neg h]
      have e : q.1 = ((q.1.toNat : Nat) : Int) := by omega
      rw [e, band, band, Nat.and_assoc, h1]
  unfold signAt
  have : (tabP.getD p []).find? (fits p (n : Int)) = (tabP.getD p []).find? (fits p ((n &&& maskP.getD p 0 : Nat) : Int)) := by
    revert hf
    generalize tabP.getD p [] = l
    intro hf
    induction l with
    | nil => rfl
    | cons a r ih =>
      rw [List.find?_cons, List.find?_cons, hf a (.head _), ih fun q hq => hf q (.tail _ hq)]
  rw [this]
noncomputable def valC (w p : Nat) : Int := bitsF p ((sgT.getD p Str.empty).cps.toList.idxOf (signC (w : Int) p))
theorem val_of {n p j : Nat} (hp : p < 10) (hj : (sgT.getD p Str.empty).cps[j]? = some (signC (n : Int) p)) : bitsF p j = valC (n &&& maskP.getD p 0) p := by
  have hid : ∀ p : Fin 10, ∀ j : Fin 8, ((sgT.getD p.1 Str.empty).cps[j.1]?).all (fun c => (sgT.getD p.1 Str.empty).cps.toList.idxOf c == j.1) = true := by decide +kernel
  have hj8 := (index_fin hp hj).1
  have h := hid ⟨p, hp⟩ ⟨j, hj8⟩
  dsimp only at h
  rw [hj] at h
  have h' : (sgT.getD p Str.empty).cps.toList.idxOf (signC (n : Int) p) = j := beq_iff_eq.mp h
  unfold valC
  have e : signC ((n &&& maskP.getD p 0 : Nat) : Int) p = signC (n : Int) p := by unfold signC; rw [← sign_mask hp]
  rw [e, h']
theorem val_one : ∀ p : Fin 10, p.1 ≠ 0 → ∀ b1 b2 : Fin 2, maskP.getD p.1 0 &&& (b1.1 * 2 ^ (9 - p.1) + b2.1 * 2 ^ (12 - p.1 / 3)) = b1.1 * 2 ^ (9 - p.1) + b2.1 * 2 ^ (12 - p.1 / 3) → valC (b1.1 * 2 ^ (9 - p.1) + b2.1 * 2 ^ (12 - p.1 / 3)) p.1 = ((b1.1 * 2 ^ (9 - p.1) + b2.1 * 2 ^ (12 - p.1 / 3) : Nat) : Int) := by decide +kernel
theorem two_bits {n a b : Nat} (i j : Nat) (ha : a = 2 ^ i) (hb : b = 2 ^ j) (hab : a ||| b = a + b) : n &&& (a + b) = n / a % 2 * a + n / b % 2 * b := by
  rw [← hab, Nat.and_or_distrib_left]
  subst ha hb
  rw [and_bit, and_bit]
  rcases Nat.mod_two_eq_zero_or_one (n / 2 ^ i) with h | h <;> rcases Nat.mod_two_eq_zero_or_one (n / 2 ^ j) with h' | h' <;> simp [h, h']
  exact hab
theorem kind_bits (n : Nat) : n &&& 61440 = n / 4096 % 16 * 4096 := by
  have e : (61440 : Nat) = 2 ^ 12 ||| (2 ^ 13 ||| (2 ^ 14 ||| 2 ^ 15)) := by decide
  rw [e, Nat.and_or_distrib_left, Nat.and_or_distrib_left, Nat.and_or_distrib_left, and_bit, and_bit, and_bit, and_bit]
  have h : n / 4096 % 16 = n / 2 ^ 12 % 2 + n / 2 ^ 13 % 2 * 2 + n / 2 ^ 14 % 2 * 4 + n / 2 ^ 15 % 2 * 8 := by omega
  rw [h]
  rcases Nat.mod_two_eq_zero_or_one (n / 2 ^ 12) with h1 | h1 <;> rcases Nat.mod_two_eq_zero_or_one (n / 2 ^ 13) with h2 | h2 <;> rcases Nat.mod_two_eq_zero_or_one (n / 2 ^ 14) with h3 | h3 <;> rcases Nat.mod_two_eq_zero_or_one (n / 2 ^ 15) with h4 | h4 <;> rw [h1, h2, h3, h4] <;> decide
theorem val_kind : ∀ K : Fin 16, valC (K.1 * 4096) 0 = if [1, 2, 4, 6, 8, 10, 12].any (fun x => x == (K.1 : Int)) then ((K.1 * 4096 : Nat) : Int) else 0 := by decide +kernel
theorem val_bits {n p : Nat} (hp : p < 10) (h0 : p ≠ 0) : valC (n &&& maskP.getD p 0) p = ((n &&& maskP.getD p 0 : Nat) : Int) := by
  have one : ∀ p : Fin 10, p.1 ≠ 0 → p.1 % 3 ≠ 0 → maskP.getD p.1 0 = 2 ^ (9 - p.1) := by decide +kernel
  have two : ∀ p : Fin 10, p.1 ≠ 0 → p.1 % 3 = 0 → maskP.getD p.1 0 = 2 ^ (9 - p.1) + 2 ^ (12 - p.1 / 3) ∧ (2 ^ (9 - p.1) ||| 2 ^ (12 - p.1 / 3) = 2 ^ (9 - p.1) + 2 ^ (12 - p.1 / 3)) := by decide +kernel
  have vo := val_one ⟨p, hp⟩ h0
  dsimp only at vo
  by_cases h3 : p % 3 = 0
  · obtain ⟨e1, e2⟩ := two ⟨p, hp⟩ h0 h3
    dsimp only at e1 e2
    have e3 : n &&& maskP.getD p 0 = n / 2 ^ (9 - p) % 2 * 2 ^ (9 - p) + n / 2 ^ (12 - p / 3) % 2 * 2 ^ (12 - p / 3) := by rw [e1]; exact two_bits _ _ rfl rfl e2
    have v := vo ⟨n / 2 ^ (9 - p) % 2, Nat.mod_lt _ (by decide)⟩ ⟨n / 2 ^ (12 - p / 3) % 2, Nat.mod_lt _ (by decide)⟩
    dsimp only at v
    rw [← e3] at v
    exact v (by rw [Nat.and_comm, Nat.and_assoc, Nat.and_self])
  · have e1 := one ⟨p, hp⟩ h0 h3
    dsimp only at e1
    have e3 : n &&& maskP.getD p 0 = n / 2 ^ (9 - p) % 2 * 2 ^ (9 - p) + 0 * 2 ^ (12 - p / 3) := by rw [e1, Nat.zero_mul, Nat.add_zero]; exact and_bit _ _
    have v := vo ⟨n / 2 ^ (9 - p) % 2, Nat.mod_lt _ (by decide)⟩ ⟨0, by decide⟩
    dsimp only at v
    rw [← e3] at v
    exact v (by rw [Nat.and_comm, Nat.and_assoc, Nat.and_self])
theorem kind_int (n : Nat) : ((n : Int).fdiv 4096).fmod 16 = ((n / 4096 % 16 : Nat) : Int) := by
  rw [Int.fdiv_eq_ediv_of_nonneg _ (by decide), Int.fmod_eq_emod_of_nonneg _ (by decide)]; rfl
theorem mod_int (n k : Nat) (h : 0 < k) : (n : Int).fmod (k : Int) = ((n % k : Nat) : Int) := by
  rw [Int.fmod_eq_emod_of_nonneg _ (Int.natCast_nonneg k)]; rfl
theorem pl_sum {m : Int} {j : Nat → Nat} (h0 : 0 ≤ m) (hj : ∀ p, p < 10 → (sgT.getD p Str.empty).cps[j p]? = some (signC m p)) : ((List.range 10).map fun p => bitsF p (j p)).sum = dueM m := by
  obtain ⟨n, rfl⟩ := Int.eq_ofNat_of_zero_le h0
  have hv : ∀ p, p < 10 → bitsF p (j p) = valC (n &&& maskP.getD p 0) p := fun p hp => val_of hp (hj p hp)
  have hb : ∀ p, p < 10 → p ≠ 0 → bitsF p (j p) = ((n &&& maskP.getD p 0 : Nat) : Int) := fun p hp hz => by rw [hv p hp, val_bits hp hz]
  have e : (List.range 10).map (fun p => bitsF p (j p)) = [bitsF 0 (j 0), bitsF 1 (j 1), bitsF 2 (j 2), bitsF 3 (j 3), bitsF 4 (j 4), bitsF 5 (j 5), bitsF 6 (j 6), bitsF 7 (j 7), bitsF 8 (j 8), bitsF 9 (j 9)] := rfl
  rw [e]
  simp only [List.sum_cons, List.sum_nil]
  rw [hb 1 (by decide) (by decide), hb 2 (by decide) (by decide), hb 3 (by decide) (by decide), hb 4 (by decide) (by decide), hb 5 (by decide) (by decide), hb 6 (by decide) (by decide), hb 7 (by decide) (by decide), hb 8 (by decide) (by decide), hb 9 (by decide) (by decide), hv 0 (by decide)]
  have m0 : n &&& maskP.getD 0 0 = n / 4096 % 16 * 4096 := kind_bits n
  have m1 : n &&& maskP.getD 1 0 = n / 256 % 2 * 256 := and_bit n 8
  have m2 : n &&& maskP.getD 2 0 = n / 128 % 2 * 128 := and_bit n 7
  have m3 : n &&& maskP.getD 3 0 = n / 64 % 2 * 64 + n / 2048 % 2 * 2048 := two_bits 6 11 rfl rfl (by decide)
  have m4 : n &&& maskP.getD 4 0 = n / 32 % 2 * 32 := and_bit n 5
  have m5 : n &&& maskP.getD 5 0 = n / 16 % 2 * 16 := and_bit n 4
  have m6 : n &&& maskP.getD 6 0 = n / 8 % 2 * 8 + n / 1024 % 2 * 1024 := two_bits 3 10 rfl rfl (by decide)
  have m7 : n &&& maskP.getD 7 0 = n / 4 % 2 * 4 := and_bit n 2
  have m8 : n &&& maskP.getD 8 0 = n / 2 % 2 * 2 := and_bit n 1
  have m9 : n &&& maskP.getD 9 0 = n / 1 % 2 * 1 + n / 512 % 2 * 512 := two_bits 0 9 rfl rfl (by decide)
  rw [m0, m1, m2, m3, m4, m5, m6, m7, m8, m9]
  have vk := val_kind ⟨n / 4096 % 16, Nat.mod_lt _ (by decide)⟩
  dsimp only at vk
  rw [vk]
  unfold dueM knownM
  have f1 := kind_int n
  have f2 : (n : Int).fmod 65536 = ((n % 65536 : Nat) : Int) := mod_int n 65536 (by decide)
  have f3 : (n : Int).fmod 4096 = ((n % 4096 : Nat) : Int) := mod_int n 4096 (by decide)
  rw [f1, f2, f3]
  have s15 : n % 65536 = n % 4096 + 4096 * (n / 4096 % 16) := Nat.mod_mul (x := n) (a := 4096) (b := 16)
  have s11 : n % 4096 = n % 2048 + 2048 * (n / 2048 % 2) := Nat.mod_mul (x := n) (a := 2048) (b := 2)
  have s10 : n % 2048 = n % 1024 + 1024 * (n / 1024 % 2) := Nat.mod_mul (x := n) (a := 1024) (b := 2)
  have s9 : n % 1024 = n % 512 + 512 * (n / 512 % 2) := Nat.mod_mul (x := n) (a := 512) (b := 2)
  have s8 : n % 512 = n % 256 + 256 * (n / 256 % 2) := Nat.mod_mul (x := n) (a := 256) (b := 2)
  have s7 : n % 256 = n % 128 + 128 * (n / 128 % 2) := Nat.mod_mul (x := n) (a := 128) (b := 2)
  have s6 : n % 128 = n % 64 + 64 * (n / 64 % 2) := Nat.mod_mul (x := n) (a := 64) (b := 2)
  have s5 : n % 64 = n % 32 + 32 * (n / 32 % 2) := Nat.mod_mul (x := n) (a := 32) (b := 2)
  have s4 : n % 32 = n % 16 + 16 * (n / 16 % 2) := Nat.mod_mul (x := n) (a := 16) (b := 2)
  have s3 : n % 16 = n % 8 + 8 * (n / 8 % 2) := Nat.mod_mul (x := n) (a := 8) (b := 2)
  have s2 : n % 8 = n % 4 + 4 * (n / 4 % 2) := Nat.mod_mul (x := n) (a := 4) (b := 2)
  have s1 : n % 4 = n % 2 + 2 * (n / 2 % 2) := Nat.mod_mul (x := n) (a := 2) (b := 2)
  have s0 : n % 2 = n % 1 + 1 * (n / 1 % 2) := Nat.mod_mul (x := n) (a := 1) (b := 2)
  have s00 : n % 1 = 0 := Nat.mod_one n
  clear m0 m1 m2 m3 m4 m5 m6 m7 m8 m9 vk f1 f2 f3 hv hb e hj h0
  split
  all_goals (rename _ => hsp; clear hsp)
  all_goals (generalize n / 4096 % 16 = kk at *)
  all_goals (generalize n / 1 % 2 = b0 at *)
  all_goals (generalize n / 2 % 2 = b1 at *)
  all_goals (generalize n / 4 % 2 = b2 at *)
  all_goals (generalize n / 8 % 2 = b3 at *)
  all_goals (generalize n / 16 % 2 = b4 at *)
  all_goals (generalize n / 32 % 2 = b5 at *)
  all_goals (generalize n / 64 % 2 = b6 at *)
  all_goals (generalize n / 128 % 2 = b7 at *)
  all_goals (generalize n / 256 % 2 = b8 at *)
  all_goals (generalize n / 512 % 2 = b9 at *)
  all_goals (generalize n / 1024 % 2 = b10 at *)
  all_goals (generalize n / 2048 % 2 = b11 at *)
  all_goals (generalize n % 1 = r0 at *)
  all_goals (generalize n % 2 = r1 at *)
  all_goals (generalize n % 4 = r2 at *)
  all_goals (generalize n % 8 = r3 at *)
  all_goals (generalize n % 16 = r4 at *)
  all_goals (generalize n % 32 = r5 at *)
  all_goals (generalize n % 64 = r6 at *)
  all_goals (generalize n % 128 = r7 at *)
  all_goals (generalize n % 256 = r8 at *)
  all_goals (generalize n % 512 = r9 at *)
  all_goals (generalize n % 1024 = r10 at *)
  all_goals (generalize n % 2048 = r11 at *)
  all_goals (generalize n % 4096 = r12 at *)
  all_goals (generalize n % 65536 = r16 at *)
  all_goals omega
end Mine

-- S10a
namespace Mine
open PySem PySem.W PyProof.Rows PySem.Spec PySem.Calls
section
variable {w : World} {A : Around} {E : Value → Shared → Prop} {s : Shared} {env : Env}
/-- what a comprehension draws from -/
noncomputable def SrcOk (w : World) (A : Around) (s : Shared) (src : Value) (n : Nat) (P : Nat → Value → Prop) : Prop := ∀ (Q E : Value → Shared → Prop),
  (∀ h₁ St fp, Kf s.heap h₁ → h₁.objs.size = s.heap.objs.size + 1 → Walks PG w A s.heap.objs.size fp [s.heap.objs.size] n P St → (∀ b ∈ fp, @LE.le Nat _ b s.heap.objs.size) → St 0 h₁ → Q (.ref s.heap.objs.size) { s with heap := h₁ }) →
  wpAny (model PG w) A (pyIter src) Q E s
theorem src_list {a : Addr} {items : Array Value} (hh : A.handled = none) (hl : s.heap.IsList a items) : SrcOk w A s (.ref a) items.size (fun i v => items[i]? = some v) := by
  intro Q E h
  have la : @LT.lt Nat _ a s.heap.objs.size := let ⟨o, e, _⟩ := hl; Heap.lt_size e
  refine wpAny_pyIter_list hl (h _ _ _ (fun b o e => Heap.get?_push_of_some _ e) (Heap.size_push ..) (Walks.list hh s.heap.objs.size a (Nat.ne_of_lt la) items) ?_ ⟨⟨_, Heap.get?_push_size _ rfl, rfl, rfl⟩, hl.at fun o e => Heap.get?_push_of_some _ e⟩)
  intro b hb
  rcases List.mem_cons.mp hb with rfl | hb
  · exact Nat.le_refl _
  · rw [List.mem_singleton.mp hb]; exact Nat.le_of_lt la
theorem src_range {r : Addr} {a b : Int} {t u v : Tok} {n : Nat} (hh : A.handled = none) (hr : IsRange s.heap r a b 1 t u v) (hsmall : Builtin.Range.small a b 1 = true) (hn : Builtin.Range.rangeSize a b 1 = n) :
    SrcOk w A s (.ref r) n (fun i v => i < n ∧ ∃ t, v = .int (a + i * 1) t) := by
  intro Q E h
  have W := Walks.range (prog := PG) (w := w) hh s.heap.objs.size a 1 n
  have W' : Walks PG w A s.heap.objs.size [s.heap.objs.size] [s.heap.objs.size] n (fun i v => i < n ∧ ∃ t, v = .int (a + i * 1) t) _ :=
    ⟨W.sub, W.frame, fun i s Q E hi st hQ => W.item i s Q E hi st fun v h' tk hp => hQ v h' tk ⟨hi, hp⟩, W.done, W.self⟩
  refine wpAny_pyIter_range hr hsmall (h _ _ _ (fun b o e => Heap.get?_push_of_some _ e) (Heap.size_push ..) W' ?_ ?_)
  · intro b hb
    rw [List.mem_singleton.mp hb]; exact Nat.le_refl _
  · have e : a + ((0 : Nat) : Int) * 1 = a := by omega
    have e2 : (n : Int) - ((0 : Nat) : Int) = n := by omega
    show IsRangeIter _ _ (a + ((0 : Nat) : Int) * 1) ((n : Int) - ((0 : Nat) : Int)) 1
    rw [e, e2, ← hn]
    exact Heap.get?_push_size _ rfl
theorem comp_core {elt iter : Expr} {x : Str} {px : Pos} {scope : Scope} {cl : List (Str × Addr)} {pos : Pos} {src : Value} {n : Nat} {P : Nat → Value → Prop} (F : Value → Value → Prop) {R : Addr → Addr → Shared → Prop}
    (hx : scope.names.lookup x = some .local) (hk : scope.kind = .function) (hn : n ≤ 100) (S : SrcOk w A s src n P)
    (helt : ∀ (C : Addr) i v s₂ m₂, P i v → Kf s.heap s₂.heap → s.heap.objs.size ≤ C → s₂.heap.Ns C m₂ → m₂ x = some v → wpAny (model PG w) A (eval elt (compEnvC scope cl C env)) (fun y s₃ => F v y ∧ PySem.Keeps s₂ s₃) (fun _ _ => False) s₂)
    (hR : ∀ D C h' tk m' (vs : List Value) ys, Kf s.heap h' → @LE.le Nat _ s.heap.objs.size D → @LT.lt Nat _ D C → h'.PlainList D ys → vs.length = n → (∀ j v, vs[j]? = some v → P j v) → Paired F vs ys.toList → h'.Ns C m' → R D C (Sh s h' tk)) :
    wpAny (model PG w) A (pyIter src) (CompGo w A (.ListComp elt [⟨.Name x px, iter, [], 0⟩] scope pos) scope cl env R) E s := by
  refine S _ _ fun h₁ St fp k₁ z₁ W hfp st => ?_
  refine ⟨fun h' k Q E q => W.self 0 _ _ _ (W.frame _ _ _ st fun b _ o e => k b o e) q, ?_⟩
  intro D C h₂ hDs hDC k₂ hD hC tk₂
  dsimp only at hDs k₂
  rw [z₁] at hDs
  have lD : @LT.lt Nat _ s.heap.objs.size D := hDs
  have lC : @LT.lt Nat _ s.heap.objs.size C := Nat.lt_trans lD hDC
  have kf : ∀ {h' : Heap}, (∀ b o, b ≠ C → b ∉ [s.heap.objs.size] → b ≠ D → h₂.get? b = some o → h'.get? b = some o) → Kf s.heap h' := fun k b o e => by
    have lb : @LT.lt Nat _ b s.heap.objs.size := Heap.lt_size e
    exact k b o (Nat.ne_of_lt (Nat.lt_trans lb lC)) (fun hm => Nat.ne_of_lt lb (List.mem_singleton.mp hm)) (Nat.ne_of_lt (Nat.lt_trans lb lD)) (k₂ _ _ (k₁ _ _ e))
  refine codeAny_compLoop_walk (p := fun _ => true) (F := F) (cenv := compEnvC scope cl C env) W (lookup_relabel_local hx) (by simp [compEnvC, relabel, hk]) (Nat.ne_of_lt hDC) (fun hm => absurd (hfp _ hm) (Nat.not_le.mpr lD)) (fun hm => absurd (hfp _ hm) (Nat.not_le.mpr lC))
    (W.frame _ _ _ st fun b _ o e => k₂ b o e) ⟨_, hD⟩ hC ?_ ?_ ?_ (Nat.le_trans hn (by decide))
  · intro i v s₂ m₂ hP hns hm k htk
    exact wpAny_tests_nil ⟨rfl, ⟨_, _, rfl, fun _ _ e => e⟩⟩
  · intro i v s₂ m₂ hP _ hns hm k htk
    exact wpAny_mono (helt C i v s₂ m₂ hP (kf k) (Nat.le_of_lt lC) hns hm) (fun _ _ x => x) fun _ _ x => x.elim
  · intro h' tk m' ys vs hns _ hpl hlen hP hpr k
    refine ⟨_, rfl, ?_⟩
    have hf : vs.filter (fun _ => true) = vs := List.filter_eq_self.mpr fun _ _ => rfl
    rw [hf] at hpr
    exact hR D C h' tk m' vs ys (kf k) (Nat.le_of_lt lD) hDC hpl hlen hP hpr hns
theorem compE {elt iter : Expr} {x : Str} {px : Pos} {scope : Scope} {cl : List (Str × Addr)} {pos : Pos} {Q : Value → Shared → Prop} {n : Nat} {P : Nat → Value → Prop} (F : Value → Value → Prop)
    (hclos : closureFor scope env = pure cl) (hcell : ∀ y ∈ scope.names, y.2 ≠ .cell) (hkind : scope.kind = .function)
    (hnames : ∀ y ∈ scope.names, y.2 = .local → scope.names.lookup y.1 = some .local) (hs : ∀ x, foldedSetIterable iter env x = pure x) (hx : scope.names.lookup x = some .local) (hn : n ≤ 100)
    (h : wpAny (model PG w) A (eval iter env) (fun src s₁ => Stop (SrcOk w A s₁ src n P ∧
      (∀ (C : Addr) i v s₂ m₂, P i v → Kf s₁.heap s₂.heap → s₁.heap.objs.size ≤ C → s₂.heap.Ns C m₂ → m₂ x = some v → wpAny (model PG w) A (eval elt (compEnvC scope cl C env)) (fun y s₃ => F v y ∧ PySem.Keeps s₂ s₃) (fun _ _ => False) s₂) ∧
      ∀ D h' tk (vs : List Value) ys, Kf s₁.heap h' → @LE.le Nat _ s₁.heap.objs.size D → h'.PlainList D ys → vs.length = n → (∀ j v, vs[j]? = some v → P j v) → Paired F vs ys.toList → Q (.ref D) (Sh s₁ h' tk))) E s) :
    wpAny (model PG w) A (eval (.ListComp elt [⟨.Name x px, iter, [], 0⟩] scope pos) env) Q E s := by
  refine comp_eval hclos hcell hkind hnames rfl hs (wpAny_mono h (fun src s₁ h₁ => ?_) fun _ _ e => e)
  obtain ⟨S, helt, fin⟩ := h₁
  refine comp_core F hx hkind hn S helt ?_
  intro D C h' tk m' vs ys k lD hDC hpl hlen hP hpr hns
  refine ⟨m', hns, fun h'' sb => ?_⟩
  have lC : @LE.le Nat _ s₁.heap.objs.size C := Nat.le_trans lD (Nat.le_of_lt hDC)
  exact fin D h'' tk vs ys (fun b o e => sb.extBut _ _ (Nat.ne_of_lt (Nat.lt_of_lt_of_le (Heap.lt_size e) lC)) (k _ _ e)) lD (let ⟨q, e⟩ := hpl; ⟨q, sb.extBut _ _ (Nat.ne_of_lt hDC) e⟩) hlen hP hpr
theorem compL {elt iter : Expr} {x y : Str} {px py spos : Pos} {scope : Scope} {cl : List (Str × Addr)} {pos : Pos} {Q : Flow → Shared → Prop} {n : Nat} {P : Nat → Value → Prop} (F : Value → Value → Prop)
    (hsw : swapsWith (.ListComp elt [⟨.Name x px, iter, [], 0⟩] scope pos) (some (.Name y py)) spos.line env = pure true)
    (hclos : closureFor scope env = pure cl) (hcell : ∀ y ∈ scope.names, y.2 ≠ .cell) (hkind : scope.kind = .function)
    (hnames : ∀ y ∈ scope.names, y.2 = .local → scope.names.lookup y.1 = some .local) (hs : ∀ x, foldedSetIterable iter env x = pure x) (hx : scope.names.lookup x = some .local) (hn : n ≤ 100)
    (hy : env.kindOf y = some .local) (hp : (env.scope.kind == .class || (env.scope.kind == .module && env.locals != env.globals)) = false)
    (h : wpAny (model PG w) A (eval iter env) (fun src s₁ => Stop (SrcOk w A s₁ src n P ∧
      (∀ (C : Addr) i v s₂ m₂, P i v → Kf s₁.heap s₂.heap → s₁.heap.objs.size ≤ C → s₂.heap.Ns C m₂ → m₂ x = some v → wpAny (model PG w) A (eval elt (compEnvC scope cl C env)) (fun y s₃ => F v y ∧ PySem.Keeps s₂ s₃) (fun _ _ => False) s₂) ∧
      ∃ m, s₁.heap.Ns env.locals m ∧ ∀ D h' tk (vs : List Value) ys, KX [env.locals] s₁.heap h' → h'.Ns env.locals (fun z => if z = y then some (.ref D) else m z) → @LE.le Nat _ s₁.heap.objs.size D → h'.PlainList D ys → vs.length = n → (∀ j v, vs[j]? = some v → P j v) → Paired F vs ys.toList → Q .next (Sh s₁ h' tk))) E s) :
    wpAny (model PG w) A (exec (.Assign [.Name y py] (.ListComp elt [⟨.Name x px, iter, [], 0⟩] scope pos) spos) env) Q E s := by
  refine comp_assign hsw hclos hcell hkind hnames rfl hs (wpAny_mono h (fun src s₁ h₁ => ?_) fun _ _ e => e)
  obtain ⟨S, helt, m, hns, fin⟩ := h₁
  refine comp_core F hx hkind hn S helt ?_
  intro D C h' tk m' vs ys k lD hDC hpl hlen hP hpr hC
  have lL : @LT.lt Nat _ env.locals s₁.heap.objs.size := hns.lt
  have lC : @LE.le Nat _ s₁.heap.objs.size C := Nat.le_trans lD (Nat.le_of_lt hDC)
  refine wpAny_assign_Name (wpAny_storeName_local hy (hns.keeps k) (fun h₄ n₄ s₄ => ?_) hp)
  refine ⟨m', hC.sameBut s₄ (Nat.ne_of_gt (Nat.lt_of_lt_of_le lL lC)), fun h₅ s₅ => ?_⟩
  refine fin D h₅ _ vs ys ?_ ?_ lD ?_ hlen hP hpr
  · intro b o nb e
    exact s₅.extBut _ _ (Nat.ne_of_lt (Nat.lt_of_lt_of_le (Heap.lt_size e) lC)) (s₄.extBut _ _ (fun q => nb (q ▸ .head _)) (k _ _ e))
  · exact n₄.sameBut s₅ (Nat.ne_of_lt (Nat.lt_of_lt_of_le lL lC))
  · obtain ⟨q, e⟩ := hpl
    exact ⟨q, s₅.extBut _ _ (Nat.ne_of_lt hDC) (s₄.extBut _ _ (Nat.ne_of_gt (Nat.lt_of_lt_of_le lL lD)) e)⟩
theorem compC {elt iter : Expr} {x y : Str} {px py spos : Pos} {scope : Scope} {cl : List (Str × Addr)} {pos : Pos} {Q : Flow → Shared → Prop} {n : Nat} {P : Nat → Value → Prop} (F : Value → Value → Prop) {c : Addr}
    (hsw : swapsWith (.ListComp elt [⟨.Name x px, iter, [], 0⟩] scope pos) (some (.Name y py)) spos.line env = pure true)
    (hclos : closureFor scope env = pure cl) (hcell : ∀ y ∈ scope.names, y.2 ≠ .cell) (hkind : scope.kind = .function)
    (hnames : ∀ y ∈ scope.names, y.2 = .local → scope.names.lookup y.1 = some .local) (hs : ∀ x, foldedSetIterable iter env x = pure x) (hx : scope.names.lookup x = some .local) (hn : n ≤ 100)
    (hk' : env.scope.kind = .function) (hy : env.kindOf y = some .cell) (hc : env.cells.lookup y = some c)
    (h : wpAny (model PG w) A (eval iter env) (fun src s₁ => Stop (SrcOk w A s₁ src n P ∧
      (∀ (C : Addr) i v s₂ m₂, P i v → Kf s₁.heap s₂.heap → s₁.heap.objs.size ≤ C → s₂.heap.Ns C m₂ → m₂ x = some v → wpAny (model PG w) A (eval elt (compEnvC scope cl C env)) (fun y s₃ => F v y ∧ PySem.Keeps s₂ s₃) (fun _ _ => False) s₂) ∧
      ∃ cv, s₁.heap.IsCell c cv ∧ ∀ D h' tk (vs : List Value) ys, KX [c] s₁.heap h' → h'.IsCell c (some (.ref D)) → @LE.le Nat _ s₁.heap.objs.size D → h'.PlainList D ys → vs.length = n → (∀ j v, vs[j]? = some v → P j v) → Paired F vs ys.toList → Q .next (Sh s₁ h' tk))) E s) :
    wpAny (model PG w) A (exec (.Assign [.Name y py] (.ListComp elt [⟨.Name x px, iter, [], 0⟩] scope pos) spos) env) Q E s := by
  refine comp_assign hsw hclos hcell hkind hnames rfl hs (wpAny_mono h (fun src s₁ h₁ => ?_) fun _ _ e => e)
  obtain ⟨S, helt, cv, hce, fin⟩ := h₁
  refine comp_core F hx hkind hn S helt ?_
  intro D C h' tk m' vs ys k lD hDC hpl hlen hP hpr hC
  have lc : @LT.lt Nat _ c s₁.heap.objs.size := let ⟨o, e, _⟩ := hce; Heap.lt_size e
  have lC : @LE.le Nat _ s₁.heap.objs.size C := Nat.le_trans lD (Nat.le_of_lt hDC)
  refine wpAny_assign_Name (wpAny_storeName_cell hk' hy hc (hce.keeps k) fun h₄ n₄ s₄ => ?_)
  refine ⟨m', hC.sameBut s₄ (Nat.ne_of_gt (Nat.lt_of_lt_of_le lc lC)), fun h₅ s₅ => ?_⟩
  refine fin D h₅ _ vs ys ?_ ?_ lD ?_ hlen hP hpr
  · intro b o nb e
    exact s₅.extBut _ _ (Nat.ne_of_lt (Nat.lt_of_lt_of_le (Heap.lt_size e) lC)) (s₄.extBut _ _ (fun q => nb (q ▸ .head _)) (k _ _ e))
  · obtain ⟨o, e, d⟩ := n₄
    exact ⟨o, s₅.extBut _ _ (Nat.ne_of_lt (Nat.lt_of_lt_of_le lc lC)) e, d⟩
  · obtain ⟨q, e⟩ := hpl
    exact ⟨q, s₅.extBut _ _ (Nat.ne_of_lt hDC) (s₄.extBut _ _ (Nat.ne_of_gt (Nat.lt_of_lt_of_le lc lD)) e)⟩
end
end Mine

-- S10
namespace Mine
noncomputable def MarkC : Prop := (3 : Nat) = 3
open PySem PySem.W PyProof.Rows PySem.Spec PySem.Calls
noncomputable def MarkL : Prop := (2 : Nat) = 2
local macro_rules | `(tactic| walk_at $s:str) => if s.getString == "subscriptTail Name Name ref int" then `(tactic| (k_dflt (refine' item_list ?o ?z ?x ?_; (case o => exact News.get (by k_asm) (by k_mem)); (case z => omega); (case x => assumption)))) else if s.getString == "storeName" then `(tactic| ((rename MarkC => mk7); refine stop_intro ?_)) else if ["eval ListComp", "exec For Name Call cons nil", "call type:range cons nil", "call type:range", "pyIter ref"].contains s.getString then `(tactic| ((rename MarkL => mk9); refine stop_intro ?_)) else if ["compareOp NotEq ref ref", "call ref"].contains s.getString then `(tactic| (refine stop_intro ?_)) else if s.getString == "call builtin:len" then `(tactic| (refine len_at (by assumption) ?_; intro _ _)) else Lean.Macro.throwUnsupported
/-- a heap's first objects -/
noncomputable def cut (h : Heap) (n : Nat) : Heap := ⟨h.objs.extract 0 n, h.life⟩
theorem cut_get {h : Heap} {n : Nat} {b : Addr} {o : Obj} : (cut h n).get? b = some o ↔ (@LT.lt Nat _ b n ∧ h.get? b = some o) := by
  unfold cut Heap.get?
  have e : (h.objs.extract 0 n)[b]? = if @LT.lt Nat _ b n then h.objs[b]? else none := by
    rw [Array.getElem?_extract]
    simp only [Nat.zero_add, Nat.sub_zero]
    by_cases q : @LT.lt Nat _ b n
    · rw [if_pos q]
      split
      · rfl
      · rename_i h2
        rw [Array.getElem?_eq_none]
        omega
    · rw [if_neg q, if_neg]
      omega
  simp only [e]
  by_cases q : @LT.lt Nat _ b n
  · rw [if_pos q]; exact ⟨fun h => ⟨q, h⟩, fun h => h.2⟩
  · rw [if_neg q]; exact ⟨fun h => (nomatch h), fun h => absurd h.1 q⟩
theorem cut_size {h : Heap} {n : Nat} : (cut h n).objs.size ≤ n := by
  unfold cut
  rw [Array.size_extract]
  omega
theorem ne_trues {w : World} {A : Around} {E Q : Value → Shared → Prop} {s : Shared} {n c1 c2 : Nat} {a b : Addr} (hn : n ≤ 3) (hu : A.units ≤ 190)
    (ha : s.heap.get? a = some ⟨.type "list", none, .seq (List.replicate n (.bool true)).toArray c1, #[]⟩) (hb : s.heap.get? b = some ⟨.type "list", none, .seq (List.replicate n (.bool true)).toArray c2, #[]⟩)
    (h : Q (.bool false) s) : wpAny (model PG w) A (compareOp .NotEq (.ref a) (.ref b)) Q E s := by
  have hu' : A.units + 64 < cLine := Nat.lt_of_le_of_lt (Nat.add_le_add_right hu 64) (by decide)
  have h4 : ∀ m : Fin 4, m.val = 0 ∨ m.val = 1 ∨ m.val = 2 ∨ m.val = 3 := by decide +kernel
  rcases h4 ⟨n, Nat.lt_succ_of_le hn⟩ with e | e | e | e <;> (change n = _ at e; subst e)
  · exact ne_dataH (reads_list_at ha rfl rfl ReadsAll.nil) (reads_list_at hb rfl rfl ReadsAll.nil) rfl rfl hu' h
  · exact ne_dataH (reads_list_at ha rfl rfl (.cons (.bool _) .nil)) (reads_list_at hb rfl rfl (.cons (.bool _) .nil)) rfl rfl hu' h
  · exact ne_dataH (reads_list_at ha rfl rfl (.cons (.bool _) (.cons (.bool _) .nil))) (reads_list_at hb rfl rfl (.cons (.bool _) (.cons (.bool _) .nil))) rfl rfl hu' h
  · exact ne_dataH (reads_list_at ha rfl rfl (.cons (.bool _) (.cons (.bool _) (.cons (.bool _) .nil)))) (reads_list_at hb rfl rfl (.cons (.bool _) (.cons (.bool _) (.cons (.bool _) .nil)))) rfl rfl hu' h
theorem all_true {F : Value → Value → Prop} (hF : ∀ v y, F v y → y = .bool true) : ∀ {vs ys : List Value}, Paired F vs ys → ys = List.replicate vs.length (.bool true)
  := by
  intro vs ys p
  induction p with
  | nil => rfl
  | cons f r ih => rw [hF _ _ f, ih]; rfl
theorem step_frame {B h h' : Heap} {L D : Addr} {m m' : Str → Option Value} {news : List (Addr × Obj)} {o : Obj} (F : Fr B L h m) (N : News B L h news) (kx : KX [L] h h') (n : h'.Ns L m') (lD : @LE.le Nat _ h.objs.size D) (eD : h'.get? D = some o) :
    Fr B L h' m' ∧ News B L h' ((D, o) :: news) := by
  have lL : @LT.lt Nat _ L h.objs.size := F.ns.lt
  refine ⟨⟨n, fun b o e => kx b o (fun hm => ?_) (F.keep b o e), F.above⟩, fun p hp => ?_⟩
  · have : @LT.lt Nat _ b B.objs.size := Heap.lt_size e
    exact absurd (List.mem_singleton.mp hm) (Nat.ne_of_lt (Nat.lt_of_lt_of_le this F.above))
  · rcases List.mem_cons.mp hp with rfl | hp
    · exact ⟨eD, Nat.ne_of_gt (Nat.lt_of_lt_of_le lL lD), Heap.get?_none_of_le (Nat.le_trans F.above (Nat.le_of_lt (Nat.lt_of_lt_of_le lL lD)))⟩
    · exact ⟨kx _ _ (fun hm => (N p hp).2.1 (List.mem_singleton.mp hm)) (N p hp).1, (N p hp).2⟩
theorem news_kf {B h h' : Heap} {L D : Addr} {m : Str → Option Value} {news : List (Addr × Obj)} {o : Obj} (F : Fr B L h m) (N : News B L h news) (k : Kf h h') (lD : @LE.le Nat _ h.objs.size D) (eD : h'.get? D = some o) :
    Fr B L h' m ∧ News B L h' ((D, o) :: news) := step_frame F N (KX.kf k) (F.ns.keeps k) lD eD
theorem src_listN {w : World} {A : Around} {s : Shared} {a : Addr} {ws : List Value} {n : Nat} (hh : A.handled = none) (hl : s.heap.IsList a ws.toArray) (hn : ws.length = n) : SrcOk w A s (.ref a) n (fun i v => ws.toArray[i]? = some v) := by
  subst hn
  have := src_list (w := w) hh hl
  rwa [List.size_toArray] at this
theorem ints_of_at : ∀ {n : Nat} {ys : List Value} {f : Nat → Int}, ys.length = n → (∀ p, p < n → ∃ u, ys[p]? = some (.int (f p) u)) → IntsAre ys ((List.range n).map f) := by
  intro n ys
  induction ys generalizing n with
  | nil => intro f hl _; subst hl; exact .nil
  | cons y ys ih =>
    intro f hl h
    subst hl
    show IntsAre (y :: ys) ((List.range (ys.length + 1)).map f)
    rw [List.range_succ_eq_map, List.map_cons, List.map_map]
    obtain ⟨u, e⟩ := h 0 (Nat.succ_pos _)
    have e' : y = .int (f 0) u := by simpa using e
    rw [e']
    refine .cons _ _ (ih (f := f ∘ Nat.succ) rfl fun p hp => ?_)
    obtain ⟨u, e⟩ := h (p + 1) (Nat.succ_lt_succ hp)
    exact ⟨u, by simpa using e⟩
theorem range10 : Builtin.Range.small 0 (10 : Int) 1 = true ∧ Builtin.Range.rangeSize 0 (10 : Int) 1 = ((10 : Nat) : Int) := by decide +kernel
theorem list_eq_of {vs ws : List Value} {n : Nat} (h1 : vs.length = n) (h2 : ws.length = n) (h : ∀ (j : Nat) (v : Value), vs[j]? = some v → ws.toArray[j]? = some v) : vs = ws := by
  refine List.ext_getElem? fun i => ?_
  rcases Nat.lt_or_ge i vs.length with q | q
  · rw [List.getElem?_eq_getElem q]
    have := h i vs[i] (List.getElem?_eq_getElem q)
    rw [List.getElem?_toArray] at this
    exact this.symm
  · rw [List.getElem?_eq_none q, List.getElem?_eq_none (by omega)]
theorem signs16_size : signs16.cps.size ≤ 1000 := by decide +kernel
theorem News.drop2 {B h : Heap} {L : Addr} {a b : Addr × Obj} {r : List (Addr × Obj)} (N : News B L h (a :: b :: r)) : News B L h (a :: r) := fun p hp => by
  rcases List.mem_cons.mp hp with rfl | hp
  · exact N _ (.head _)
  · exact N _ (.tail _ (.tail _ hp))
theorem ns_known {h : Heap} {C : Addr} {m : Str → Option Value} {x : Str} {v : Value} (n : h.Ns C m) (e : m x = some v) : h.Ns C (fun y => if y = x then some v else m y) := by
  have : (fun y => if y = x then some v else m y) = m := by
    funext y
    by_cases q : y = x
    · rw [if_pos q, q]; exact e.symm
    · rw [if_neg q]
  rw [this]; exact n
theorem paired_at {F : Value → Value → Prop} : ∀ {vs ys : List Value}, Paired F vs ys → vs.length = ys.length ∧ ∀ (i : Nat) (v : Value), vs[i]? = some v → ∃ y, ys[i]? = some y ∧ F v y
  | _, _, .nil => ⟨rfl, fun i v h => by simp at h⟩
  | _, _, .cons hf r => by
    obtain ⟨a, b⟩ := paired_at r
    refine ⟨by simp [a], fun i v h => ?_⟩
    cases i with
    | zero => simp at h; subst h; exact ⟨_, rfl, hf⟩
    | succ i => rw [List.getElem?_cons_succ] at h ⊢; exact b i v h
theorem modes_fin {ns : List Int} : (∀ m ∈ (ns.take 3).map (fun k : Int => k.fmod 4294967296), 0 ≤ m ∧ m < 4294967296) := by
  intro m hm
  obtain ⟨k, _, rfl⟩ := List.mem_map.mp hm
  rw [Int.fmod_eq_emod_of_nonneg _ (by decide)]
  exact ⟨Int.emod_nonneg _ (by decide), Int.emod_lt_of_pos _ (by decide)⟩
noncomputable abbrev namesS10 : List Str := ["modes", "rows", "numbers", "k", "signs", "known", "due", "script"]
theorem law_spec {T0 : Keeps} {w : World} {mg mb : Str → Option Value} {s : Shared} {R : Result → Shared → Prop} {sA : Addr} {vs : List Value} {ns : List Int}
    (G : Gd w mg mb s.heap) (gt : GT T0 s.heap) (sl : s.heap.IsList sA vs.toArray) (hI : IntsAre vs ns) (hlen : ns.length ≤ 63)
    (hq : ∀ h' tk, Kp s.heap h' → (∃ ps, h'.get? 77 = some (tabObj ps)) → (∀ b o, T0 b o → h'.get? b = some o) → R (.ok (.ret (.bool true))) (Sh s h' tk)) :
    codeAny (model PG w) callerA (.call (.ref 106) ⟨[.ref sA], []⟩) R s := by
  have : PySem.Challenge.rw_mr0153_01.Holds → (hd.heap_39 w.params).In s.heap → True := by (k_fill; intros; trivial)
  clear this
  refine' enterCc (x := "signs") (binds := [("script", .ref sA)]) (Bs.self s.heap) G.nolimit (G.inH _ _ ?k1) (codeRec_of G.inH ?k2) ?k3 ?k4 ?k5 ?kc ?_ ?k7 ?k8 ?k9
  case k1 => k_is
  case k2 => k_is
  case k3 => decide
  case k4 => exact BindsTo.of_eq rfl
  case k5 => exact locs rfl
  case kc => exact fun n => rfl
  case k7 => rfl
  case k8 => rfl
  case k9 => rfl
  intro L h₁ oc F N dc hL kf
  refine Rm.any (d := 305) (u := 190) ⟨rfl, Nat.le_of_ble_eq_true rfl, Nat.le_of_ble_eq_true rfl⟩ ?_
  have X := G.inH
  obtain ⟨lo, mn, TP'⟩ := G.T
  have TP := TP'.keeps (fun b o e => (gh_get.mp e).1)
  refine wpAny_execs_cons (wpAny_mono (Q := fun f s' => Stop (f = .next ∧ ∃ (mA : Addr) (mv : List Value) (cap : Nat) (Ms : List Int) (h : Heap) (tk : Nat), s' = Sh s h tk ∧
      (Fr s.heap L h fun y => lkO [("modes", some (.ref mA)), ("script", some (.ref sA))] y) ∧ News s.heap L h [(mA, ⟨.type "list", none, .seq mv.toArray cap, #[]⟩), (L + 1, oc)] ∧ IntsAre mv Ms ∧ 1 ≤ Ms.length ∧ Ms.length ≤ 3 ∧ ∀ m ∈ Ms, 0 ≤ m ∧ m < 4294967296)) ?_ ?_ fun _ _ x => x)
  · clear TP'
    k_steps
    · rename Fr _ _ _ _ => F1
      rename News _ _ _ _ => N1
      rename IntsAre _ (List.map _ _) => hI1
      rename 0 < _ => hpos
      simp only [lookup_lkO, List.reverse_cons, List.reverse_nil, List.nil_append, List.map_cons, List.map_nil, set_lkO] at F1
      refine ⟨by trivial, _, _, _, _, _, _, rfl, F1, News.drop2 N1, hI1, hpos, ?_, modes_fin⟩
      rw [List.length_map, List.length_take]; omega
    · rename Fr _ _ _ _ => F1
      rename News _ _ _ _ => N1
      simp only [lookup_lkO, List.reverse_cons, List.reverse_nil, List.nil_append, List.map_cons, List.map_nil, set_lkO] at F1
      exact ⟨by trivial, _, _, _, [35309, 17407], _, _, rfl, F1, News.drop2 (News.drop2 N1), .cons _ _ (.cons _ _ .nil), by decide, by decide, by decide⟩
  have mk : MarkL := rfl
  rintro f s' ⟨rfl, mA, mv, cap, Ms, h2, tk2, rfl, F2, N2, hMs, hM1, hM3, hMb⟩
  clear F N kf
  dsimp only [Sh]
  have hMl : mv.length = Ms.length := ints_len_eq hMs
  refine wpAny_execs_cons ?_
  refine compL (cl := []) (n := mv.toArray.size) (P := fun i v => mv.toArray[i]? = some v) (F := fun v y => ∃ m t u, v = .int m t ∧ y = .str (rowOf m) u) ?c1 ?c2 ?c3 ?c4 ?c5 ?c6 ?c7 ?c8 ?c9 ?c10 ?_
  case c1 => with_unfolding_all rfl
  case c2 => rfl
  case c3 => decide
  case c4 => rfl
  case c5 => decide
  case c6 => intro _; rfl
  case c7 => rfl
  case c8 => rw [List.size_toArray, hMl]; omega
  case c9 => rfl
  case c10 => rfl
  k_steps
  refine Stop.go ⟨src_list rfl ⟨_, (N2 _ (.head _)).1, rfl, _, rfl⟩, ?_, _, F2.ns, ?_⟩
  · intro C i v s₂ m₂ hP k₂ hC n₂ hm
    obtain ⟨g2, gg, dd, tt, oo⟩ := s₂
    dsimp only at k₂ n₂
    rw [List.getElem?_toArray] at hP
    obtain ⟨m, t, rfl, _⟩ := IntsAre.at hMs i v hP
    have FC : Fr s.heap C g2 _ := ⟨ns_known n₂ hm, fun b o e => k₂ _ _ (F2.keep _ _ e), Nat.le_trans F2.above (Nat.le_of_lt (Nat.lt_of_lt_of_le F2.ns.lt hC))⟩
    have NC : News s.heap C g2 [] := News.nil
    clear F2 N2
    k_steps
    any_goals (first | exact (0 : Nat) | exact Str.empty | exact Value.none | exact ([] : List (Str × Addr)))
    refine Stop.go (fm_spec (G.kp (Kf.kp FC.keep)) ⟨rfl, Nat.le_of_ble_eq_true rfl, Nat.le_of_ble_eq_true rfl⟩ ?_)
    intro h9 tk9 t9 k9
    exact ⟨⟨m, t, t9, rfl, rfl⟩, ⟨h9, tk9, rfl, k9⟩⟩
  intro D h3 tk3 vs' ys kx3 n3 lD hD3 hl3 hP3 hpr
  obtain ⟨cap3, eD3⟩ := hD3
  obtain ⟨F3, N3⟩ := step_frame F2 N2 kx3 n3 lD eD3
  have evs : vs' = mv := by
    refine List.ext_getElem? fun i => ?_
    rcases Nat.lt_or_ge i vs'.length with h | h
    · rw [List.getElem?_eq_getElem h]
      have := hP3 i vs'[i] (List.getElem?_eq_getElem h)
      rw [List.getElem?_toArray] at this
      exact this.symm
    · rw [List.getElem?_eq_none h, List.getElem?_eq_none (by rw [List.size_toArray] at hl3; omega)]
  subst evs
  obtain ⟨hpl, hpa⟩ := paired_at hpr
  have rowsAt : ∀ (k : Nat) (r : Str), (Ms.map rowOf)[k]? = some r → ∃ t : Tok, ys.toList[k]? = some (.str r t) := by
    intro k r hr
    rw [List.getElem?_map] at hr
    cases e : Ms[k]? with
    | none => rw [e] at hr; cases hr
    | some m =>
      rw [e] at hr
      obtain rfl : rowOf m = r := by simpa using hr
      have hk : k < vs'.length := by rw [hMl]; exact (List.getElem?_eq_some_iff.mp e).1
      obtain ⟨y, ey, m', t', u', e1, rfl⟩ := hpa k vs'[k] (List.getElem?_eq_getElem hk)
      obtain ⟨m2, t2, e2, e3⟩ := IntsAre.at hMs k vs'[k] (List.getElem?_eq_getElem hk)
      rw [e] at e3; cases e3
      rw [e1] at e2; cases e2
      exact ⟨u', ey⟩
  have rowV : ∀ (i : Nat) (v : Value), ys[i]? = some v → ∃ (r : Str) (t : Tok), v = .str r t ∧ r.cps.size = 10 := by
    intro i v hv
    rw [← Array.getElem?_toList] at hv
    have hi : i < vs'.length := by rw [hpl]; exact (List.getElem?_eq_some_iff.mp hv).1
    obtain ⟨y, ey, m', t', u', e1, rfl⟩ := hpa i vs'[i] (List.getElem?_eq_getElem hi)
    rw [hv] at ey; cases ey
    exact ⟨_, _, rfl, row_size m'⟩
  have hys : ys.size = Ms.length := by rw [← Array.length_toList, ← hpl, hMl]
  clear F2 N2 kx3 n3 hpr hpa hP3 hl3
  simp only [set_lkO] at F3
  dsimp only [Sh] at lD ⊢
  k_steps
  refine Stop.go ?_
  refine compE (cl := []) (n := ys.size) (P := fun i v => ys[i]? = some v) (F := fun v y => y = .bool true) ?c2 ?c3 ?c4 ?c5 ?c6 ?c7 ?c8 ?_
  case c2 => rfl
  case c3 => decide
  case c4 => rfl
  case c5 => decide
  case c6 => intro _; rfl
  case c7 => rfl
  case c8 => omega
  k_steps
  refine Stop.go ⟨src_list rfl ⟨_, (N3 _ (.head _)).1, rfl, _, rfl⟩, ?_, ?_⟩
  · intro C i v s₂ m₂ hP k₂ hC n₂ hm
    obtain ⟨g2, gg, dd, tt, oo⟩ := s₂
    dsimp only at k₂ n₂
    obtain ⟨r, t, rfl, hr10⟩ := rowV i v hP
    have hr1000 : r.cps.size ≤ 1000 := by omega
    have FC : Fr s.heap C g2 _ := ⟨ns_known n₂ hm, fun b o e => k₂ _ _ (F3.keep _ _ e), Nat.le_trans F3.above (Nat.le_of_lt (Nat.lt_of_lt_of_le F3.ns.lt hC))⟩
    have NC : News s.heap C g2 [] := News.nil
    clear F3 N3
    k_steps
    any_goals (first | exact (0 : Nat) | exact Str.empty | exact Value.none | exact ([] : List (Str × Addr)))
    · rw [hr10]; rfl
    · exact ⟨_, _, rfl, fun _ _ e => e⟩
  intro D4 h4 tk4 vs4 ys4 k4 lD4 hD4 hl4 hP4 hpr4
  obtain ⟨cap4, eD4⟩ := hD4
  have ey4 := all_true (fun _ _ h => h) hpr4
  rw [hl4, hys] at ey4
  dsimp only [Sh] at k4 lD4 ⊢
  obtain ⟨F4, N4⟩ := news_kf F3 N3 k4 lD4 eD4
  clear F3 N3 hpr4 hP4 hl4
  k_steps
  refine Stop.go ?_
  refine compE (cl := []) (n := ys.size) (P := fun i v => ys[i]? = some v) (F := fun v y => y = .bool true) ?c2 ?c3 ?c4 ?c5 ?c6 ?c7 ?c8 ?_
  case c2 => rfl
  case c3 => decide
  case c4 => rfl
  case c5 => decide
  case c6 => intro _; rfl
  case c7 => rfl
  case c8 => omega
  k_steps
  refine Stop.go ⟨src_list rfl ⟨_, (N4 _ (.tail _ (.head _))).1, rfl, _, rfl⟩, ?_, ?_⟩
  · intro C i v s₂ m₂ hP k₂ hC n₂ hm
    obtain ⟨g2, gg, dd, tt, oo⟩ := s₂
    dsimp only at k₂ n₂
    have FC : Fr s.heap C g2 _ := ⟨ns_known n₂ hm, fun b o e => k₂ _ _ (F4.keep _ _ e), Nat.le_trans F4.above (Nat.le_of_lt (Nat.lt_of_lt_of_le F4.ns.lt hC))⟩
    have NC : News s.heap C g2 [] := News.nil
    clear F4 N4
    k_steps
    try any_goals (first | exact (0 : Nat) | exact Str.empty | exact Value.none | exact ([] : List (Str × Addr)))
    all_goals first | rfl | exact ⟨_, _, rfl, fun _ _ e => e⟩ | exact ⟨rfl, _, _, rfl, fun _ _ e => e⟩
  intro D5 h5 tk5 vs5 ys5 k5 lD5 hD5 hl5 hP5 hpr5
  obtain ⟨cap5, eD5⟩ := hD5
  have ey5 := all_true (fun _ _ h => h) hpr5
  rw [hl5, hys] at ey5
  dsimp only [Sh] at k5 lD5 ⊢
  obtain ⟨F5, N5⟩ := news_kf F4 N4 k5 lD5 eD5
  clear F4 N4 hpr5 hP5 hl5
  k_steps
  have e4 := (N5 _ (.tail _ (.head _))).1
  have e5 := (N5 _ (.head _)).1
  dsimp only at e4 e5
  rw [← Array.toArray_toList (xs := ys4), ey4] at e4
  rw [← Array.toArray_toList (xs := ys5), ey5] at e5
  refine Stop.go (ne_trues hM3 (Nat.le_refl _) e4 e5 ?_)
  k_steps
  have eD := (N5 _ (.tail _ (.tail _ (.head _)))).1
  dsimp only at eD
  rw [← Array.toArray_toList (xs := ys)] at eD
  refine Stop.go (num_spec (rows := Ms.map rowOf) (G.kp (Kf.kp F5.keep)) (mono_GT _ _ F5.keep gt) ⟨rfl, Nat.le_of_ble_eq_true rfl, Nat.le_of_ble_eq_true rfl⟩ ⟨_, _, eD, ?_, rowsAt⟩ ?_ ?_ ?_)
  · rw [Array.length_toList, hys, List.length_map]
  · rw [List.length_map]; exact hM3
  · intro r hr
    obtain ⟨m, _, rfl⟩ := List.mem_map.mp hr
    exact row_size m
  intro nA h6 tk6 kp6 gt6 lnA hn6
  obtain ⟨nv, ncap, en6, hn6⟩ := hn6
  rw [List.length_map] at hn6
  dsimp only [Sh] at lnA kp6 ⊢
  -- a new base: what the call has found
  have nmA := N5 _ (.tail _ (.tail _ (.tail _ (.head _))))
  have nL1 := N5 _ (.tail _ (.tail _ (.tail _ (.tail _ (.head _)))))
  dsimp only at nmA nL1
  have mAc : @Ne Nat mA (L + 1) := by
    intro q
    have e := nmA.1
    rw [q, nL1.1] at e
    cases e
    cases dc
  have nns := Ns.kp F5.ns kp6
  have ocT : isTab oc = false := by unfold isTab; rw [dc]; cases oc.cls <;> rfl
  have emA6 := kp6 _ _ nmA.1 rfl
  have eL16 := kp6 _ _ nL1.1 ocT
  have lL5 : @LT.lt Nat _ L h5.objs.size := F5.ns.lt
  have nAL : @Ne Nat nA L := Nat.ne_of_gt (Nat.lt_of_lt_of_le lL5 lnA)
  have nAm : @Ne Nat nA mA := Nat.ne_of_gt (Nat.lt_of_lt_of_le (Heap.lt_size nmA.1) lnA)
  have nAc : @Ne Nat nA (L + 1) := Nat.ne_of_gt (Nat.lt_of_lt_of_le (Heap.lt_size nL1.1) lnA)
  have snA : s.heap.get? nA = none := Heap.get?_none_of_le (Nat.le_trans F5.above (Nat.le_of_lt (Nat.lt_of_lt_of_le lL5 lnA)))
  obtain ⟨B, hB⟩ : ∃ B, B = hideAll (cut h6 s.heap.objs.size) [mA, L + 1, nA] := ⟨_, rfl⟩
  have Bin : ∀ b o, s.heap.get? b = some o → h6.get? b = some o → B.get? b = some o := fun b o e e6 => by
    rw [hB]
    refine hideAll_get _ (cut_get.mpr ⟨Heap.lt_size e, e6⟩) fun hm => ?_
    rcases List.mem_cons.mp hm with q | hm
    · rw [q, nmA.2.2] at e; cases e
    rcases List.mem_cons.mp hm with q | hm
    · rw [q, nL1.2.2] at e; cases e
    · rw [List.mem_singleton.mp hm, snA] at e; cases e
  have Bout : ∀ b o, B.get? b = some o → h6.get? b = some o := fun b o e => by
    rw [hB] at e
    exact (cut_get.mp (of_hideAll _ e)).2
  have Bn : ∀ a ∈ [mA, L + 1, nA], B.get? a = none := fun a ha => by rw [hB]; exact hideAll_none _ ha
  have Bsz : B.objs.size ≤ s.heap.objs.size := by rw [hB, hideAll_size]; exact cut_size
  have B77 : ∀ o, h6.get? 77 = some o → B.get? 77 = some o := fun o e6 => by
    obtain ⟨ps0, e0, _⟩ := gt.1
    rw [hB]
    refine hideAll_get _ (cut_get.mpr ⟨Heap.lt_size e0, e6⟩) fun hm => ?_
    rcases List.mem_cons.mp hm with q | hm
    · rw [q, nmA.2.2] at e0; cases e0
    rcases List.mem_cons.mp hm with q | hm
    · rw [q, nL1.2.2] at e0; cases e0
    · rw [List.mem_singleton.mp hm, snA] at e0; cases e0
  clear hB
  have kpS : Kp s.heap h6 := (Kf.kp F5.keep).trans kp6
  have ghB : ∀ b o, (gh s.heap).get? b = some o → B.get? b = some o := fun b o e => by
    obtain ⟨e1, e2⟩ := gh_get.mp e
    exact Bin b o e1 (kpS b o e1 e2)
  have F6 : Fr B L h6 _ := ⟨nns, Bout, Nat.le_trans Bsz hL⟩
  have N6 : News B L h6 [(nA, ⟨.type "list", none, .seq nv.toArray ncap, #[]⟩), (mA, ⟨.type "list", none, .seq vs'.toArray cap, #[]⟩), (L + 1, oc)] := by
    intro p hp
    rcases List.mem_cons.mp hp with rfl | hp
    · exact ⟨en6, nAL, Bn _ (.tail _ (.tail _ (.head _)))⟩
    rcases List.mem_cons.mp hp with rfl | hp
    · exact ⟨emA6, nmA.2.1, Bn _ (.head _)⟩
    rcases List.mem_cons.mp hp with rfl | hp
    · exact ⟨eL16, nL1.2.1, Bn _ (.tail _ (.head _))⟩
    · cases hp
  have fin : ∀ h' tk (m' : Str → Option Value), Fr B L h' m' → R (.ok (.ret (.bool true))) (Sh s h' tk) := by
    intro h' tk m' F'
    refine hq h' tk (fun b o e i => F'.keep _ _ (ghB _ _ (gh_get.mpr ⟨e, i⟩))) ?_ (fun b o t => F'.keep _ _ (Bin _ _ (gt.2.2 b o t) (gt6.2.2 b o t)))
    obtain ⟨ps0, e0, _⟩ := gt.1
    obtain ⟨ps6, e6, _⟩ := gt6.1
    exact ⟨ps6, F'.keep _ _ (B77 _ e6)⟩
  clear F5 N5 nns e4 e5 eD gt6 kp6
  have X := G.X.keeps ghB
  have TP := TP'.keeps ghB
  clear TP'
  k_steps
  refine Stop.go (wpAny_For ?_)
  k_steps
  rename Fr _ _ _ _ => F7
  rename News _ _ _ _ => N7
  simp only [set_lkO] at F7
  refine Stop.go (range1_rows F7 N7 ?_)
  intro h8 tk8 t8 u8 v8 hr8 F8 N8 k8
  clear F7 N7
  have hln : ((vs'.toArray.size : Nat) : Int) = (Ms.length : Nat) := by rw [List.size_toArray, hMl]
  have rgf : ∀ n : Nat, n ≤ 3 → Builtin.Range.small 0 (n : Int) 1 = true ∧ Builtin.Range.rangeSize 0 (n : Int) 1 = (n : Nat) := by
    intro n hn
    have : ∀ n : Fin 4, Builtin.Range.small 0 (n.1 : Int) 1 = true ∧ Builtin.Range.rangeSize 0 (n.1 : Int) 1 = (n.1 : Nat) := by decide +kernel
    exact this ⟨n, by omega⟩
  refine letter3 (fun (it : Addr) (k : Nat) (s' : Shared) (QQ : Prop) => ∀ (h' : Heap) (tk : Nat) (oc' : Obj) (cv ok okn odu : Option Value), s' = Sh s h' tk → (Fr B L h' fun y => lkO [("numbers", some (.ref nA)), ("modes", some (.ref mA)), ("k", ok), ("known", okn), ("due", odu), ("rows", some (.ref D)), ("script", some (.ref sA))] y) → News B L h' [(nA, ⟨.type "list", none, .seq nv.toArray ncap, #[]⟩), (mA, ⟨.type "list", none, .seq vs'.toArray cap, #[]⟩), (L + 1, oc')] → oc'.data = .cell cv → IsRangeIter h' it (0 + k) ((Ms.length : Nat) - k) 1 → @Ne Nat it L → @Ne Nat it nA → @Ne Nat it mA → @Ne Nat it (L + 1) → B.get? it = none → QQ) ?_
  intro I1 mkI1 unI1
  refine letter1 (fun (s' : Shared) (QQ : Prop) => ∀ (h' : Heap) (tk : Nat) (m' : Str → Option Value), s' = Sh s h' tk → Fr B L h' m' → QQ) ?_
  intro R1 mkR1 unR1
  refine for_range (n := Ms.length) rfl hr8 (rgf _ hM3).1 (rgf _ hM3).2
    I1
    R1 ?_ ?_ ?_ ?_ ?_
  · rintro it h' rfl k' hit
    have nx := fun {b : Addr} {o : Obj} (e : h8.get? b = some o) => (Nat.ne_of_gt (Heap.lt_size e) : @Ne Nat h8.objs.size b)
    refine mkI1 _ _ _ fun QQ qq => qq h' _ oc _ none none none rfl (Fr.mapA namesS10 (keepsF F8 k') rfl rfl (by repeat' (first | exact True.intro | refine And.intro rfl ?_))) (fun p hp => ⟨k' _ _ (N8 p hp).1, (N8 p hp).2⟩) dc (by simpa using hit) ?_ (nx (N8 _ (.head _)).1) (nx (N8 _ (.tail _ (.head _))).1) (nx (N8 _ (.tail _ (.tail _ (.head _)))).1) ?_
    · obtain ⟨o, _, _, e, _⟩ := F8.ns
      exact nx e
    · exact Heap.get?_none_of_le (Nat.le_trans F8.above (Nat.le_of_lt F8.ns.lt))
  · intro it k s' hy
    refine unI1 _ _ _ _ hy ?_
    clear hy
    rintro h' tk oc' cv ok okn odu rfl F N dc' hit _ _ _ _ _
    exact hit
  · intro it k s' h9 hk hy hit9 sb9
    refine unI1 _ _ _ _ hy ?_
    clear hy
    rintro h' tk oc' cv ok okn odu rfl F N dc' hit i1 i2 i3 i4 i5
    have F9 : Fr B L h9 _ := ⟨F.ns.at' fun o e => sb9.extBut _ _ (Ne.symm i1) e, fun b o e => sb9.extBut _ _ (fun q => by rw [q, i5] at e; cases e) (F.keep _ _ e), F.above⟩
    obtain ⟨fs, hfs, hback⟩ : ∃ fs, h9.get? it = some ⟨.type "range_iterator", none, .fields fs, #[]⟩ ∧ ∀ H : Heap, H.get? it = some ⟨.type "range_iterator", none, .fields fs, #[]⟩ → IsRangeIter H it (0 + ((k + 1 : Nat) : Int)) ((Ms.length : Nat) - ((k + 1 : Nat) : Int)) 1 := ⟨_, hit9, fun H e => e⟩
    have N9 : News B L h9 [(nA, ⟨.type "list", none, .seq nv.toArray ncap, #[]⟩), (mA, ⟨.type "list", none, .seq vs'.toArray cap, #[]⟩), (L + 1, oc'), (it, ⟨.type "range_iterator", none, .fields fs, #[]⟩)] := by
      intro p hp
      rcases List.mem_cons.mp hp with rfl | hp
      · exact ⟨sb9.extBut _ _ (Ne.symm i2) (N _ (.head _)).1, (N _ (.head _)).2⟩
      rcases List.mem_cons.mp hp with rfl | hp
      · exact ⟨sb9.extBut _ _ (Ne.symm i3) (N _ (.tail _ (.head _))).1, (N _ (.tail _ (.head _))).2⟩
      rcases List.mem_cons.mp hp with rfl | hp
      · exact ⟨sb9.extBut _ _ (Ne.symm i4) (N _ (.tail _ (.tail _ (.head _)))).1, (N _ (.tail _ (.tail _ (.head _)))).2⟩
      rcases List.mem_cons.mp hp with rfl | hp
      · exact ⟨hfs, i1, i5⟩
      · cases hp
    obtain ⟨mI, hmI⟩ : ∃ m, Ms[k]? = some m := ⟨_, List.getElem?_eq_getElem hk⟩
    clear F N F8 N8 sb9 hit hit9 hfs
    rw [show (0 : Int) + (k : Int) = (k : Int) from Int.zero_add _]
    dsimp only [Sh]
    k_steps
    rename Fr _ _ _ _ => F10
    rename News _ _ _ _ => N10
    simp only [set_lkO] at F10
    refine Stop.go ?_
    refine compE (cl := []) (n := 10) (P := fun i v => ((nv.drop (10 * k)).take 10).toArray[i]? = some v) (F := fun v y => ∃ (q : Nat) (t : Tok) (c : Nat) (u : Tok), v = .int q t ∧ y = .str ⟨#[c]⟩ u ∧ signs16.cps[q]? = some c) ?c2 ?c3 ?c4 ?c5 ?c6 ?c7 ?c8 ?_
    case c2 => rfl
    case c3 => decide
    case c4 => rfl
    case c5 => decide
    case c6 => intro _; rfl
    case c7 => rfl
    case c8 => decide
    k_steps
    refine Stop.go (slice_list (s := ⟨_, _, _, _, _⟩) (items := nv.toArray) F10 N10 ⟨_, (N10 _ (.head _)).1, rfl, _, rfl⟩ (.int _ _) (.int _ _) ?_ (by with_unfolding_all rfl) (by intro _; with_unfolding_all rfl) ?_)
    rotate_left
    · rw [List.size_toArray, hn6.1, sizeLine_eq]; omega
    intro h11 F11 N11
    have e1 : 10 * (k : Int) = ((10 * k : Nat) : Int) := by omega
    have e2 : 10 * (k : Int) + 10 = ((10 * k + 10 : Nat) : Int) := by omega
    have hsl : slicePick nv.toArray (some (10 * (k : Int))) (some (10 * (k : Int) + 10)) none = ((nv.drop (10 * k)).take 10).toArray := by
      rw [e2, e1, slicePick_run nv.toArray (10 * k) (10 * k + 10) (by rw [List.size_toArray, hn6.1]; omega) (by omega)]
      rw [show 10 * k + 10 - 10 * k = 10 by omega]
    rw [hsl] at N11
    have wsl : ((nv.drop (10 * k)).take 10).length = 10 := by rw [List.length_take, List.length_drop, hn6.1]; omega
    have wsa : ∀ i v, i < 10 → ((nv.drop (10 * k)).take 10)[i]? = some v → nv[10 * k + i]? = some v := by
      intro i v hi e
      rw [List.getElem?_take_of_lt hi, List.getElem?_drop] at e
      exact e
    generalize hws : (nv.drop (10 * k)).take 10 = ws at *
    have h0 : 0 ≤ mI := (hMb _ (List.mem_of_getElem? hmI)).1
    refine Stop.go ⟨src_listN (ws := ws) rfl ⟨_, (N11 _ (.head _)).1, rfl, _, rfl⟩ wsl, ?_, ?_⟩
    · intro C i v s₂ m₂ hP k₂ hC n₂ hm
      obtain ⟨g2, gg, dd, tt, oo⟩ := s₂
      dsimp only at k₂ n₂
      rw [List.getElem?_toArray] at hP
      have hi : i < 10 := by rw [← wsl]; exact (List.getElem?_eq_some_iff.mp hP).1
      obtain ⟨tq, etq⟩ := hn6.2 (10 * k + i) (by omega)
      rw [wsa i v hi hP] at etq
      cases etq
      obtain ⟨q, eq, hq16⟩ := pl_num hmI hi
      rw [eq] at hm ⊢
      have FC : Fr B C g2 _ := ⟨ns_known n₂ hm, fun b o e => k₂ _ _ (F11.keep _ _ e), Nat.le_trans F11.above (Nat.le_of_lt (Nat.lt_of_lt_of_le F11.ns.lt hC))⟩
      have NC : News B C g2 [] := News.nil
      clear F11 N11 F10 N10
      k_steps
      any_goals (first | exact (0 : Nat) | exact Str.empty | exact Value.none | exact ([] : List (Str × Addr)))
      refine Stop.go (item_at (x := signs16) hq16 signs16_size ?_)
      exact ⟨⟨q, tq, _, _, rfl, rfl, hq16⟩, _, _, rfl, fun _ _ e => e⟩
    intro D12 h12 tk12 vs12 ys12 k12 lD12 hD12 hl12 hP12 hpr12
    obtain ⟨cap12, eD12⟩ := hD12
    have evs12 := list_eq_of hl12 wsl hP12
    subst evs12
    obtain ⟨hpl12, hpa12⟩ := paired_at hpr12
    have sg : ∀ p, p < 10 → ∃ u : Tok, ys12.toList[p]? = some (.str ⟨#[signC mI p]⟩ u) := by
      intro p hp
      obtain ⟨y, ey, q, t, c, u, e1, rfl, e3⟩ := hpa12 p vs12[p] (List.getElem?_eq_getElem (by omega))
      have hv := wsa p vs12[p] hp (List.getElem?_eq_getElem (by omega))
      obtain ⟨tq, etq⟩ := hn6.2 (10 * k + p) (by omega)
      rw [hv, e1] at etq
      obtain ⟨q', eq, hq16⟩ := pl_num hmI hp
      rw [eq] at etq
      have : (q : Int) = (q' : Int) := by injection etq with etq; injection etq
      obtain rfl : q = q' := by omega
      rw [e3] at hq16
      cases hq16
      exact ⟨u, ey⟩
    have hl12' : ys12.toList.length = 10 := by rw [← hpl12, wsl]
    dsimp only [Sh] at k12 lD12 ⊢
    rw [← Array.toArray_toList (xs := ys12)] at eD12
    generalize ys12.toList = sv at *
    obtain ⟨F12, N12⟩ := news_kf F11 N11 k12 lD12 eD12
    have lL11 : @LT.lt Nat _ (L + 1) h11.objs.size := Heap.lt_size (N11 _ (.tail _ (.tail _ (.tail _ (.head _))))).1
    clear F10 N10 F11 N11 hpr12 hpa12 hP12
    have mkc : MarkC := rfl
    k_steps
    rename MarkC => mkc
    clear mkc
    have nc := N12 _ (.tail _ (.tail _ (.tail _ (.tail _ (.head _)))))
    have cel : h12.IsCell (L + 1) cv := ⟨oc', nc.1, dc'⟩
    refine Stop.go (wpAny_storeName_cell rfl rfl rfl cel fun h13 c13 sb13 => ?_)
    obtain ⟨oc13, eo13, d13⟩ := c13
    have F13 : Fr B L h13 _ := F12.change sb13 nc.2.1 nc.2.2
    have N13 : News B L h13 [(D12, ⟨.type "list", none, .seq sv.toArray cap12, #[]⟩), (nA, ⟨.type "list", none, .seq nv.toArray ncap, #[]⟩), (mA, ⟨.type "list", none, .seq vs'.toArray cap, #[]⟩), (L + 1, oc13), (it, ⟨.type "range_iterator", none, .fields fs, #[]⟩)] := by
      intro p hp
      rcases List.mem_cons.mp hp with rfl | hp
      · exact ⟨sb13.extBut _ _ (Nat.ne_of_gt (Nat.lt_of_lt_of_le lL11 lD12)) (N12 _ (.head _)).1, (N12 _ (.head _)).2⟩
      rcases List.mem_cons.mp hp with rfl | hp
      · exact ⟨sb13.extBut _ _ nAc (N12 _ (.tail _ (.tail _ (.head _)))).1, (N12 _ (.tail _ (.tail _ (.head _)))).2⟩
      rcases List.mem_cons.mp hp with rfl | hp
      · exact ⟨sb13.extBut _ _ mAc (N12 _ (.tail _ (.tail _ (.tail _ (.head _))))).1, (N12 _ (.tail _ (.tail _ (.tail _ (.head _))))).2⟩
      rcases List.mem_cons.mp hp with rfl | hp
      · exact ⟨eo13, nc.2⟩
      rcases List.mem_cons.mp hp with rfl | hp
      · exact ⟨sb13.extBut _ _ i4 (N12 _ (.tail _ (.tail _ (.tail _ (.tail _ (.tail _ (.head _))))))).1, (N12 _ (.tail _ (.tail _ (.tail _ (.tail _ (.tail _ (.head _))))))).2⟩
      · cases hp
    obtain ⟨tI, hmk⟩ : ∃ t, vs'[k]? = some (.int mI t) := by
      have hk' : k < vs'.length := by omega
      obtain ⟨m2, t2, e2, e3⟩ := IntsAre.at hMs k vs'[k] (List.getElem?_eq_getElem hk')
      rw [hmI] at e3; cases e3
      exact ⟨t2, by rw [List.getElem?_eq_getElem hk', e2]⟩
    clear F12 N12 cel nc k12 eD12 sb13 eo13
    obtain ⟨NN, hNN⟩ : ∃ NN : List (Addr × Obj), NN = [(D12, ⟨.type "list", none, .seq sv.toArray cap12, #[]⟩), (nA, ⟨.type "list", none, .seq nv.toArray ncap, #[]⟩), (mA, ⟨.type "list", none, .seq vs'.toArray cap, #[]⟩), (L + 1, oc13), (it, ⟨.type "range_iterator", none, .fields fs, #[]⟩)] := ⟨_, rfl⟩
    have low : ∀ p ∈ NN, @LT.lt Nat _ p.1 h13.objs.size := fun p hp => Heap.lt_size (N13 p (by rw [← hNN]; exact hp)).1
    refine wpAny_execs_cons (wpAny_mono (Q := fun f s' => Stop (f = .next ∧ ∃ (h : Heap) (tk : Nat) (uk : Tok), s' = Sh s h tk ∧
      (Fr B L h fun y => lkO [("numbers", some (.ref nA)), ("modes", some (.ref mA)), ("k", some (.int k uk)), ("known", some (.bool (knownM mI))), ("due", odu), ("rows", some (.ref D)), ("script", some (.ref sA))] y) ∧ News B L h NN)) ?_ ?_ fun _ _ x => x)
    · k_steps
      rename Fr _ _ _ _ => Fk
      rename News _ _ _ _ => Nk
      simp only [set_lkO] at Fk
      refine ⟨by trivial, _, _, _, rfl, Fr.mapA namesS10 Fk rfl rfl (by repeat' (first | exact True.intro | refine And.intro rfl ?_)), ?_⟩
      rw [hNN]
      exact fun p hp => Nk p (.tail _ hp)
    rintro f s' ⟨rfl, h14, tk14, uk, rfl, F14, N14⟩
    clear F13 N13
    dsimp only [Sh]
    rw [hNN] at N14
    refine wpAny_execs_cons (wpAny_mono (Q := fun f s' => Stop (f = .next ∧ ∃ (h : Heap) (tk : Nat) (ud : Tok), s' = Sh s h tk ∧
      (Fr B L h fun y => lkO [("numbers", some (.ref nA)), ("modes", some (.ref mA)), ("k", some (.int k uk)), ("known", some (.bool (knownM mI))), ("due", some (.int (dueM mI) ud)), ("rows", some (.ref D)), ("script", some (.ref sA))] y) ∧ News B L h NN)) ?_ ?_ fun _ _ x => x)
    · obtain ⟨bk, hbk⟩ : ∃ b, b = knownM mI := ⟨_, rfl⟩
      rw [← hbk] at F14 ⊢
      k_steps
      · rename Fr _ _ _ _ => Fk
        rename News _ _ _ _ => Nk
        rename bk = true => hb1
        have hdue : dueM mI = mI.fmod 65536 := by unfold dueM; rw [← hbk, hb1]; rfl
        rw [hdue, hNN]
        simp only [set_lkO] at Fk
        exact ⟨by trivial, _, _, _, rfl, Fr.mapA namesS10 Fk rfl rfl (by repeat' (first | exact True.intro | refine And.intro rfl ?_)), Nk⟩
      · rename Fr _ _ _ _ => Fk
        rename News _ _ _ _ => Nk
        rename bk = false => hb1
        have hdue : dueM mI = mI.fmod 4096 := by unfold dueM; rw [← hbk, hb1]; rfl
        rw [hdue, hNN]
        simp only [set_lkO] at Fk
        exact ⟨by trivial, _, _, _, rfl, Fr.mapA namesS10 Fk rfl rfl (by repeat' (first | exact True.intro | refine And.intro rfl ?_)), Nk⟩
    rintro f s' ⟨rfl, h15, tk15, ud, rfl, F15, N15⟩
    clear F14 N14
    dsimp only [Sh]
    rw [hNN] at N15
    obtain ⟨jj, hjj⟩ : ∃ jj : Nat → Nat, ∀ p, p < 10 → (sgT.getD p Str.empty).cps[jj p]? = some (signC mI p) := by
      refine ⟨fun p => if h : p < 10 then Classical.choose (pl_idx (m := mI) h) else 0, fun p hp => ?_⟩
      dsimp only
      rw [dif_pos hp]
      exact Classical.choose_spec (pl_idx (m := mI) hp)
    have hsum := pl_sum h0 hjj
    k_steps
    refine Stop.go ?_
    refine compE (cl := [("signs", L + 1)]) (n := 10) (P := fun i v => i < 10 ∧ ∃ t, v = .int (0 + i * 1) t) (F := fun v y => ∃ (p : Nat) (t u : Tok), v = .int (0 + p * 1) t ∧ p < 10 ∧ y = .int (bitsF p (jj p)) u) ?c2 ?c3 ?c4 ?c5 ?c6 ?c7 ?c8 ?_
    case c2 => rfl
    case c3 => decide
    case c4 => rfl
    case c5 => decide
    case c6 => intro _; rfl
    case c7 => rfl
    case c8 => decide
    k_steps
    refine Stop.go (range1_rows F15 N15 ?_)
    intro h16 tk16 t16 u16 v16 hr16 F16 N16 k16
    clear F15 N15
    refine Stop.go ⟨src_range rfl hr16 range10.1 range10.2, ?_, ?_⟩
    · intro C i v s₂ m₂ hP k₂ hC n₂ hm
      obtain ⟨g2, gg, dd, tt, oo⟩ := s₂
      dsimp only at k₂ n₂ hC
      obtain ⟨hi, t, rfl⟩ := hP
      rw [show (0 : Int) + (i : Int) * 1 = (i : Int) by omega] at hm
      obtain ⟨us, hsg⟩ := sg i hi
      have FC : Fr B C g2 _ := ⟨ns_known n₂ hm, fun b o e => k₂ _ _ (F16.keep _ _ e), Nat.le_trans F16.above (Nat.le_of_lt (Nat.lt_of_lt_of_le F16.ns.lt hC))⟩
      have NC : News B C g2 [(D12, ⟨.type "list", none, .seq sv.toArray cap12, #[]⟩), (L + 1, oc13)] := by
        intro p hp
        have hN : ∀ q ∈ [(D12, (⟨.type "list", none, .seq sv.toArray cap12, #[]⟩ : Obj)), (nA, ⟨.type "list", none, .seq nv.toArray ncap, #[]⟩), (mA, ⟨.type "list", none, .seq vs'.toArray cap, #[]⟩), (L + 1, oc13), (it, ⟨.type "range_iterator", none, .fields fs, #[]⟩)], g2.get? q.1 = some q.2 ∧ q.1 ≠ C ∧ B.get? q.1 = none := fun q hq =>
          ⟨k₂ _ _ (N16 q hq).1, Nat.ne_of_lt (Nat.lt_of_lt_of_le (Heap.lt_size (N16 q hq).1) hC), (N16 q hq).2.2⟩
        rcases List.mem_cons.mp hp with rfl | hp
        · exact hN _ (.head _)
        · rw [List.mem_singleton.mp hp]; exact hN _ (.tail _ (.tail _ (.tail _ (.head _))))
      clear F16 N16
      k_steps
      any_goals (first | exact (0 : Nat) | exact Str.empty | exact Value.none | exact ([] : List (Str × Addr)))
      refine Stop.go (bits_spec (G.kp fun b o e i => FC.keep _ _ (ghB _ _ (gh_get.mpr ⟨e, i⟩))) ⟨rfl, Nat.le_of_ble_eq_true rfl, Nat.le_of_ble_eq_true rfl⟩ hi (hjj i hi) ?_)
      intro h20 tk20 t20 k20
      exact ⟨⟨i, t, t20, rfl, hi, rfl⟩, ⟨h20, tk20, rfl, k20⟩⟩
    intro D17 h17 tk17 vs17 ys17 k17 lD17 hD17 hl17 hP17 hpr17
    obtain ⟨cap17, eD17⟩ := hD17
    obtain ⟨hpl17, hpa17⟩ := paired_at hpr17
    have hI17 : IntsAre ys17.toList ((List.range 10).map fun p => bitsF p (jj p)) := by
      refine ints_of_at (by rw [← hpl17, hl17]) fun p hp => ?_
      obtain ⟨y, ey, p', t, u, e1, hp', rfl⟩ := hpa17 p vs17[p] (List.getElem?_eq_getElem (by omega))
      obtain ⟨_, t', e2⟩ := hP17 p vs17[p] (List.getElem?_eq_getElem (by omega))
      rw [e1] at e2
      have : (0 : Int) + (p' : Int) * 1 = 0 + (p : Int) * 1 := by injection e2
      obtain rfl : p' = p := by omega
      exact ⟨u, ey⟩
    dsimp only [Sh] at k17 lD17 ⊢
    rw [← Array.toArray_toList (xs := ys17)] at eD17
    obtain ⟨F17, N17⟩ := news_kf F16 N16 k17 lD17 eD17
    clear F16 N16 hpr17 hpa17 hP17
    k_steps
    · rename _ ≠ dueM mI => hne
      exact absurd hsum hne
    · rename Fr _ _ _ _ => Fz
      rename News _ _ _ _ => Nz
      show Stop _
      refine Stop.go (mkI1 _ _ _ fun QQ qq => qq _ _ oc13 _ _ _ _ rfl Fz (fun p hp => Nz p ?_) d13 (hback _ (Nz _ (.tail _ (.tail _ (.tail _ (.tail _ (.tail _ (.head _))))))).1) i1 i2 i3 i4 i5)
      rcases List.mem_cons.mp hp with rfl | hp
      · exact .tail _ (.tail _ (.head _))
      rcases List.mem_cons.mp hp with rfl | hp
      · exact .tail _ (.tail _ (.tail _ (.head _)))
      rcases List.mem_cons.mp hp with rfl | hp
      · exact .tail _ (.tail _ (.tail _ (.tail _ (.head _))))
      · cases hp
  · intro it s' h9 hy xb
    refine unI1 _ _ _ _ hy ?_
    clear hy
    rintro h' tk oc' cv ok okn odu rfl F N dc' hit i1 i2 i3 i4 i5
    exact mkR1 _ fun QQ qq => qq h9 tk _ rfl ⟨F.ns.at' fun o e => xb _ _ (Ne.symm i1) e, fun b o e => xb _ _ (fun q => by rw [q, i5] at e; cases e) (F.keep _ _ e), F.above⟩
  · intro s' hy
    refine unR1 _ _ hy ?_
    clear hy
    rintro h' tk m' rfl F
    have N : News B L h' [] := News.nil
    dsimp only [Sh]
    k_steps
    exact fin _ _ _ F
end Mine

-- S11
namespace Mine
open PySem PySem.W PyProof.Rows PySem.Spec PySem.Calls
theorem gh_of {h : Heap} {b : Addr} {o : Obj} (e : h.get? b = some o) (i : isTab o = false) : (gh h).get? b = some o := gh_get.mpr ⟨e, i⟩
theorem gh_ns {h : Heap} {a : Addr} {m : Str → Option Value} (x : h.Ns a m) : (gh h).Ns a m :=
  let ⟨o, es, ep, e, d, r⟩ := x; ⟨o, es, ep, gh_of e (by unfold isTab; rw [d]; cases o.cls <;> rfl), d, r⟩
theorem gh_K {h : Heap} {K : Frag} (X : K.In h) (hK : noTabs K = true) : K.In (gh h) := fun a o e => by
  refine gh_of (X a o e) ?_
  have h2 := List.all_eq_true.mp hK (a, o) (mem_of_lookupK e)
  unfold isTab
  dsimp only at h2
  split at h2
  · cases h2
  · rename_i hne
    split
    · rename_i q1 q2; exact absurd q2 (hne _ q1)
    · rfl
theorem gh_top {p : Program} {loose : List Str} {mean : ExcName → Option Value} {mg mb : Str → Option Value} {h : Heap} (T : Top p loose mean mg mb h) :
    Top topProg (loose ++ (recsOf p).map (·.name) ++ (litsOf p).map (·.1) ++ (clssOf p loose).map (·.name)) mean mg mb (gh h) :=
  have Z := ghost_top (tabs := []) (fun _ m => (nomatch m)) T
  { g := gh_ns T.g, b := gh_ns T.b, const := Z.const, free := Z.free, builtins := Z.builtins
    nolimit := T.nolimit.imp fun _ x => ⟨gh_ns x.1, x.2⟩
    nodigits := T.nodigits.imp fun _ x => ⟨gh_ns x.1, x.2⟩
    fn := fun _ m => (List.not_mem_nil m).elim
    own := fun _ m => (List.not_mem_nil m).elim
    tab := fun _ m => (List.not_mem_nil m).elim
    seer := fun e => (Bool.false_ne_true e).elim
    bmain := by
      obtain ⟨a, o, x1, x2, x3, x4, r⟩ := T.bmain
      exact ⟨a, o, x1, x2, gh_of x3 (by unfold isTab; rw [x4]), x4, r⟩ }
end Mine
theorem PySem.Challenge.cw_mr0153_01_holds : PySem.Challenge.rw_mr0153_01.Holds :=
  Mine.hd (by
  k_fill
  intro w s₀ s₁ mg mb G Y fa o pm cd doc dV kV ho hdd hcd hD hmg hg args vals as hpre hlay hrd hwl hlo
  have KX := km_in_of Y
  km_tabs Y
  have X := (Ground.X G).1
  have V := (Ground.X G).2
  refine Ground.open G ?_
  intro T B D TE TW
  try (refine guard_noD D (by decide +kernel) ?_; clear D)
  km_lay T hmg ho hdd cd
  wrow_args hpre hlay hrd hwl hlo
  all_goals (
    first | refine callC_kw (enter_call ?_) | refine enter_call ?_
    w_top on
    kn_posts)
  have e106 : mg "law" = some (.ref 106) := mg_of KX T.g (by kernel_rfl)
  have efa : fa = 106 := by
    have h2 : mg "law" = some (.ref fa) := hmg
    rw [e106] at h2
    cases h2
    rfl
  subst efa
  rename IntsAre _ _ => hI
  rename Heap.IsList _ _ _ => hL
  rename ¬ _ < _ => hlen
  have h77 := hT8 77 (by simp)
  have Gd0 : Mine.Gd w mg mb s₁.heap := ⟨Mine.gh_K KX (by kernel_rfl), _, _, Mine.gh_top T⟩
  have gt : Mine.GT (fun b o => s₁.heap.get? b = some o ∧ Mine.isTab o = true ∧ b ≠ 77) s₁.heap :=
    ⟨⟨#[], h77, trivial, fun _ _ _ e => (nomatch e)⟩, fun b o t => t.2, fun b o t => t.1⟩
  refine Mine.law_spec Gd0 gt hL hI (by omega) ?_
  intro h' tk kp g77 kt
  refine ⟨⟨.inl ⟨.bool true, .bool true, [], rfl, raisesW_false (by wrow_none_raised), .bool true, by wrow_post, fun _ => ⟨List.nodup_nil, fun _ h => (nomatch h)⟩⟩, ?_, rfl, hg⟩, g77, trivial⟩
  intro b o e
  have e1 := of_hideAll _ e
  have hb : b ≠ 77 := by
    rintro rfl
    rw [show (ghostOf s₁.heap [(81, 77)]).get? 77 = none from hideAll_none _ (by simp)] at e
    cases e
  cases hi : Mine.isTab o with
  | true => exact kt b o ⟨e1, hi, hb⟩
  | false => exact kp b o e1 hi)
