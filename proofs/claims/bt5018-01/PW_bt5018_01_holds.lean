import PyProof.Rows.All
import Wide.All
import OpenK.AllK
import Wide.FinOn
import PySem.Challenge.RW_bt5018_01
set_option Elab.async false
section
open PySem PySem.W PyProof.Rows
local macro_rules | `(tactic| o_head ($_f:term $k $a $p)) => `(tactic| o_head (kmHook $k $a $p [392]))
set_option maxRecDepth 100000 in
set_option maxHeartbeats 8000000 in
open_top hd for PySem.Challenge.rw_bt5018_01
end
section
open PySem PySem.W PyProof.Rows PySem.Spec PySem.Calls
set_option maxRecDepth 100000
set_option linter.unusedVariables false
namespace Mine
/-- the table of codes that the one def with generator expressions fills -/
def TabIn (h : Heap) : Prop := ∃ ps, h.get? 392 = some (tabObj ps) ∧ TriplesOk ps.toList
theorem TabIn.keeps {h h' : Heap} (x : TabIn h) (k : ∀ b o, h.get? b = some o → h'.get? b = some o) : TabIn h' := let ⟨ps, a, b⟩ := x; ⟨ps, k _ _ a, b⟩
/-- what a call may do to what stood: slots of frames, the table -/
structure Trn (fs : List Addr) (g g' : Heap) : Prop where
  size : g'.objs.size = g.objs.size
  none_ : ∀ b, g.get? b = none → g'.get? b = none
  other : ∀ b o, g.get? b = some o → b ∉ fs → b ≠ 392 → g'.get? b = some o
  frame : ∀ b o, g.get? b = some o → b ∈ fs → b ≠ 392 → ∃ sl, g'.get? b = some { o with slots := sl }
  tab : TabIn g → TabIn g'
theorem Trn.refl {fs : List Addr} {g : Heap} : Trn fs g g := ⟨rfl, fun _ e => e, fun _ _ e _ _ => e, fun _ o e _ _ => ⟨o.slots, e⟩, id⟩
theorem Trn.trans {fs : List Addr} {g g₁ g₂ : Heap} (x : Trn fs g g₁) (y : Trn fs g₁ g₂) : Trn fs g g₂ :=
  ⟨y.size.trans x.size, fun b e => y.none_ b (x.none_ b e), fun b o e m n => y.other b o (x.other b o e m n) m n, fun b o e m n => by
    obtain ⟨s1, h1⟩ := x.frame b o e m n
    obtain ⟨s2, h2⟩ := y.frame b _ h1 m n
    exact ⟨s2, h2⟩, fun t => y.tab (x.tab t)⟩
theorem Trn.up {fs : List Addr} {g g' : Heap} (x : Trn fs g g') {b : Addr} {o : Obj} (e : g.get? b = some o) (n : b ≠ 392) : ∃ sl, g'.get? b = some { o with slots := sl } := by
  by_cases m : b ∈ fs
  · exact x.frame b o e m n
  · exact ⟨o.slots, x.other b o e m n⟩
theorem tab_notin {fs : List Addr} {g : Heap} (D : KtsDicts fs g) (t : TabIn g) : (392 : Addr) ∉ fs := fun m => by
  obtain ⟨o, es, n, h1, h2⟩ := D _ m
  obtain ⟨ps, h3, _⟩ := t
  rw [h1] at h3; cases h3; cases h2
theorem Trn.of {fs : List Addr} {g g' : Heap} (x : KtsTurn fs g g') (n : (392 : Addr) ∉ fs) : Trn fs g g' :=
  ⟨x.size, x.none_, fun b o e m _ => x.other b o e m, fun b o e m _ => x.frame b o e m, fun ⟨ps, a, b⟩ => ⟨ps, x.other _ _ a n, b⟩⟩
theorem KtsDicts.trn {fs : List Addr} {g g' : Heap} (D : KtsDicts fs g) (T : Trn fs g g') (t : TabIn g) : KtsDicts fs g' := fun b m => by
  obtain ⟨o, es, n, ho, hd⟩ := D b m
  obtain ⟨sl, hs⟩ := T.frame b o ho m (fun q => tab_notin D t (q ▸ m))
  exact ⟨_, es, n, hs, hd⟩
/-- an object that is there stays there -/
theorem Trn.some {fs : List Addr} {g g' : Heap} (x : Trn fs g g') (t : TabIn g) {b : Addr} {o : Obj} (e : g.get? b = some o) : ∃ o', g'.get? b = some o' := by
  by_cases n : b = 392
  · subst n
    obtain ⟨ps, a, _⟩ := x.tab t
    exact ⟨_, a⟩
  · obtain ⟨sl, h⟩ := x.up e n
    exact ⟨_, h⟩
def trnHeap (h : Heap) (fs : List Addr) (g : Heap) : Heap := (ktsHeap h fs g).update 392 fun o => (h.get? 392).getD o
theorem trn_at {fs : List Addr} {g h : Heap} (hfs : ∀ b ∈ fs, ∃ o, g.get? b = Option.some o) (n392 : (392 : Addr) ∉ fs) (t : TabIn g) (th : TabIn h)
    (ho : ∀ b o, g.get? b = Option.some o → b ∉ fs → b ≠ 392 → h.get? b = Option.some o) (hf : ∀ b o, g.get? b = Option.some o → b ∈ fs → ∃ sl, h.get? b = Option.some { o with slots := sl }) :
    Trn fs g (trnHeap h fs g) ∧ ∀ b o, (trnHeap h fs g).get? b = Option.some o → h.get? b = Option.some o := by
  obtain ⟨ps, hg, _⟩ := t
  obtain ⟨qs, hh, hq⟩ := th
  have k1 : (ktsHeap h fs g).get? 392 = Option.some (tabObj ps) := (ktsHeap_ne fs n392).trans hg
  have k2 : (trnHeap h fs g).get? 392 = Option.some (tabObj qs) := by
    unfold trnHeap
    refine (Heap.get?_update_self _ k1 ?_).trans ?_
    · rw [hh]; rfl
    · rw [hh]; rfl
  have k3 : ∀ b, b ≠ 392 → (trnHeap h fs g).get? b = (ktsHeap h fs g).get? b := fun b hb => Heap.get?_update_other _ _ (Ne.symm hb)
  refine ⟨⟨?_, fun b e => ?_, fun b o e m n => ?_, fun b o e m n => ?_, fun _ => ⟨qs, k2, hq⟩⟩, fun b o e => ?_⟩
  · unfold trnHeap; rw [Heap.size_after_update, ktsHeap_size]
  · by_cases n : b = 392
    · subst n; rw [e] at hg; cases hg
    · rw [k3 b n, ktsHeap_ne fs fun q => by obtain ⟨o, e'⟩ := hfs b q; rw [e] at e'; cases e']
      exact e
  · rw [k3 b n, ktsHeap_ne fs m]; exact e
  · obtain ⟨sl, hs⟩ := hf b o e m
    exact ⟨sl, by rw [k3 b n]; exact ktsHeap_some fs m e hs⟩
  · by_cases n : b = 392
    · subst n; rw [k2] at e; cases e; exact hh
    · rw [k3 b n] at e
      by_cases m : b ∈ fs
      · obtain ⟨o₀, e₀⟩ := hfs b m
        obtain ⟨sl, hs⟩ := hf b o₀ e₀ m
        rw [ktsHeap_some fs m e₀ hs] at e
        cases e; exact hs
      · rw [ktsHeap_ne fs m] at e
        exact ho b o e m n
def LeaveT (fs : List Addr) (A₀ : Around) (base : Heap) (outer : List Env) (K : Frag) (p : Program) (loose : List Str) (mean : ExcName → Option Value) (mg mb : Str → Option Value) (h₀ : Heap) (L : Addr) (m : Str → Option Value) (g : Heap) (R : Result → Shared → Prop) (v : Value) (s' : Shared) : Prop :=
  (∃ L' m' news', Fr g L' s'.heap m' ∧ News g L' s'.heap news' ∧ (Fr h₀ L s'.heap m → News h₀ L s'.heap news' → R (.ok (.ret v)) s')) ∨
  ∃ g' L' m' news', Trn fs g g' ∧ Fr g' L' s'.heap m' ∧ News g' L' s'.heap news' ∧ ∀ h₀', Trn (outer.filterMap (·.frame)) h₀ h₀' → Fr h₀' L s'.heap m → News h₀' L s'.heap news' → Below A₀ base outer h₀' → K.In h₀' → Top p loose mean mg mb h₀' →
    KtsDicts (outer.filterMap (·.frame)) h₀' → TabIn h₀' → R (.ok (.ret v)) s'
theorem leaveT_l {fs : List Addr} {A₀ : Around} {base : Heap} {outer : List Env} {K : Frag} {p : Program} {loose : List Str} {mean : ExcName → Option Value} {mg mb : Str → Option Value} {h₀ g : Heap} {L L' : Addr} {m m' : Str → Option Value} {news' : List (Addr × Obj)} {R : Result → Shared → Prop} {v : Value} {s' : Shared}
    (F' : Fr g L' s'.heap m') (N' : News g L' s'.heap news') (k : Fr h₀ L s'.heap m → News h₀ L s'.heap news' → R (.ok (.ret v)) s') : LeaveT fs A₀ base outer K p loose mean mg mb h₀ L m g R v s' := .inl ⟨L', m', news', F', N', k⟩
theorem leaveT_r {fs : List Addr} {A₀ : Around} {base : Heap} {outer : List Env} {K : Frag} {p : Program} {loose : List Str} {mean : ExcName → Option Value} {mg mb : Str → Option Value} {h₀ g g' : Heap} {L L' : Addr} {m m' : Str → Option Value} {news' : List (Addr × Obj)} {R : Result → Shared → Prop} {v : Value} {s' : Shared}
    (F' : Fr g' L' s'.heap m') (N' : News g' L' s'.heap news') (T : Trn fs g g')
    (k : ∀ h₀', Trn (outer.filterMap (·.frame)) h₀ h₀' → Fr h₀' L s'.heap m → News h₀' L s'.heap news' → Below A₀ base outer h₀' → K.In h₀' → Top p loose mean mg mb h₀' → KtsDicts (outer.filterMap (·.frame)) h₀' → TabIn h₀' → R (.ok (.ret v)) s') :
    LeaveT fs A₀ base outer K p loose mean mg mb h₀ L m g R v s' := .inr ⟨g', L', m', news', T, F', N', k⟩
section
variable {prog : Program} {w : World} {A₀ A : Around} {s : Shared} {base h₀ : Heap} {outer : List Env} {L a : Addr} {m : Str → Option Value} {cn : Str} {cs : Scope} {ccd : Value} {news : List (Addr × Obj)} {K : Frag} {p : Program} {loose : List Str} {mean : ExcName → Option Value} {mg mb : Str → Option Value}
    {R : Result → Shared → Prop} {name qual : Str} {params : Arguments} {body : List Stmt} {scope : Scope} {dV kV doc pm cdv ct oc : Value} {an od : Option Addr} {osl : Array (Option Value)} {f : Addr} {args : Args} {binds : List (Str × Value)}
theorem code_defT (B : Below A₀ base outer h₀) (F : Fr h₀ L s.heap m) (X₀ : K.In h₀) (N : News h₀ L s.heap news) (T : Top p loose mean mg mb h₀) (XB : K.In base) (TB : Top p loose mean mg mb base) (D : KtsDicts (outer.filterMap (·.frame)) h₀) (tb : TabIn h₀) (bt : base.get? 392 = none)
    (hA : A.frames = some (envOf cn cs L a ccd :: outer))
    (ho : K.lookup f = some ⟨oc, od, .func (fnOf name qual params body scope dV kV doc pm an cdv ct), osl⟩) (hcd : codeIn K cdv qual = true) (hroom : A.depth < recursionLimit)
    (hbind : BindsTo s (fnOf name qual params body scope dV kV doc pm an cdv ct) args binds) (hloc : ∀ y ∈ binds, scope.names.lookup y.1 = some .local)
    (h : ∀ g L' h₁, Fr h₀ L g m → Fr g L' h₁ (fun y => binds.reverse.lookup y) → News g L' h₁ news → Below A base (envOf cn cs L a ccd :: outer) g → K.In g → Top p loose mean mg mb g → KtsDicts ((envOf cn cs L a ccd :: outer).filterMap (·.frame)) g → TabIn g →
      wpAny (model prog w) (A.deeper (envOf qual scope L' f cdv)) (execs body (envOf qual scope L' f cdv))
        (fun fl s' => LeaveT ((envOf cn cs L a ccd :: outer).filterMap (·.frame)) A₀ base outer K p loose mean mg mb h₀ L m g R (match fl with | .ret v => v | _ => .none) s')
        (fun e s' => wpAny (model prog w) (A.deeper (envOf qual scope L' f cdv)) (leaving (envOf qual scope L' f cdv) e) (fun _ s'' => R (.error e) s'') (fun e' s'' => R (.error e') s'') s')
        { s with heap := h₁, toks := s.toks + binds.length })
    (hck : cs.kind = .function) (hco : scope.isCoroutine = false) (hgen : scope.isGenerator = false) (hk : scope.kind = .function)
    (hcell : ∀ x ∈ scope.names, x.2 ≠ .cell) : codeAny (model prog w) A (.call (.ref f) args) R s := by
  have X := X₀.keeps F.keep
  refine codeAny_call_def (fd := fnOf name qual params body scope dV kV doc pm an cdv ct) (body := body) (binds := binds) hroom (X _ _ ho) rfl (T.nolimit.keeps F.keep) (codeRec_of X hcd) rfl hbind hcell hloc (fun h₁ hns hk₁ => ?_) hco hgen hk
  obtain ⟨oL, es, ep, hLg, hLd, hN, hNs, st, B₂⟩ := kts_enter B F N hA hck
  refine wpAny_mono (h _ s.heap.objs.size h₁ ⟨hN _ hLg, st, F.above⟩ ⟨hns, fun b o e => hk₁ b o (of_hideAll _ e), Nat.le_of_eq (hideAll_size _ _)⟩
    (fun p hp => ⟨hk₁ _ _ (N p hp).1, Nat.ne_of_lt (Heap.lt_size (N p hp).1), hideAll_none _ (List.mem_map_of_mem hp)⟩) B₂ (X₀.keeps st) (T.keeps st) (fun b hb => by
      rcases kts_mem hb with rfl | hb
      · exact ⟨oL, es, ep, hLg, hLd⟩
      · obtain ⟨o, es', n', ho', hd'⟩ := D b hb
        exact ⟨o, es', n', st b o ho', hd'⟩) (tb.keeps st)) (fun fl s' hl => ?_) fun _ _ y => y
  have nL₀ : h₀.get? L = none := kts_self F
  have tg : TabIn (hideAll s.heap (news.map (·.1))) := tb.keeps st
  have nL392 : L ≠ 392 := fun q => by
    obtain ⟨ps, e, _⟩ := tb
    rw [← q, nL₀] at e; cases e
  rcases hl with ⟨L', m', news', F', N', k⟩ | ⟨g', L', m', news', T', F', N', k⟩
  · refine k ⟨hN _ (F'.keep _ _ hLg), fun b o e => F'.keep b o (st b o e), F.above⟩ fun p hp => ⟨(N' p hp).1, fun q => ?_, ?_⟩
    · have := (N' p hp).2.2; rw [q, hLg] at this; cases this
    · cases q : h₀.get? p.1 with
      | none => rfl
      | some o => have := (N' p hp).2.2; rw [st _ _ q] at this; cases this
  obtain ⟨sl, hs⟩ := T'.up hLg nL392
  have n392 := tab_notin D tb
  obtain ⟨T₁, S₁⟩ := trn_at (h := s'.heap) (fs := outer.filterMap (·.frame)) (g := h₀)
    (fun b hb => by
      obtain ⟨_, o, ho', _⟩ := B.frames.mem hb
      exact ⟨o, ho'⟩) n392 tb ((T'.tab tg).keeps F'.keep)
    (fun b o e nmem n => F'.keep b o (T'.other b o (st b o e) (fun q => by
      rcases kts_mem q with z | z
      · rw [z, nL₀] at e
        cases e
      · exact nmem z) n))
    (fun b o e hm => by
      obtain ⟨sl', hs'⟩ := T'.up (st b o e) (fun q => n392 (q ▸ hm))
      exact ⟨sl', F'.keep _ _ hs'⟩)
  have B₃ : Below A₀ base outer (trnHeap s'.heap (outer.filterMap (·.frame)) h₀) := ⟨B.stack, fun b o e => T₁.other b o (B.stays b o e) (fun hm => by
    rw [(B.frames.mem hm).1] at e
    cases e) (fun q => by rw [q, bt] at e; cases e), B.frames.of_keeps fun b o e hm => by
    obtain ⟨sl', hs'⟩ := T₁.up e (fun q => by
      obtain ⟨ps, e2, _⟩ := tb
      rw [q, e2] at e; cases e; exact hm _ rfl)
    exact ⟨_, hs', rfl⟩⟩
  refine k _ T₁ ⟨hNs sl _ (F'.keep _ _ hs), S₁, by rw [T₁.size]; exact F.above⟩ (fun p hp => ⟨(N' p hp).1, fun q => ?_, ?_⟩) B₃ (XB.keeps B₃.stays) (TB.keeps B₃.stays) (KtsDicts.trn D T₁ tb) (T₁.tab tb)
  · have := (N' p hp).2.2; rw [q, hs] at this; cases this
  · refine T₁.none_ _ ?_
    cases q : h₀.get? p.1 with
    | none => rfl
    | some o =>
      obtain ⟨o', hs'⟩ := T'.some tg (st _ _ q)
      have := (N' p hp).2.2
      rw [hs'] at this
      cases this
end
end Mine
end
section
open PySem PySem.W PyProof.Rows PySem.Spec PySem.Calls
set_option maxRecDepth 100000
set_option linter.unusedVariables false
noncomputable section
namespace Mine
noncomputable abbrev P : Program := PySem.Challenge.rw_bt5018_01.row.toRowW.prog
noncomputable abbrev KF (w : World) : Frag := hd.heap_39 w.params
noncomputable abbrev LS : List Str := looseW hd.view_39 [Str.ofString "_twin_re_3", Str.ofString "_twin_re_4", Str.ofString "base_re", Str.ofString "rest_re",
      Str.ofString "NumericIdentifier", Str.ofString "AlphaIdentifier", Str.ofString "Version",
      Str.ofString "_law_fixed"]
noncomputable abbrev VP : Program := topProg
noncomputable abbrev LP : List Str := LS ++ (recsOf hd.view_39).map (·.name) ++ (litsOf hd.view_39).map (·.1) ++ (clssOf hd.view_39 LS).map (·.name)
abbrev TP (mean : ExcName → Option Value) (mg mb : Str → Option Value) (h : Heap) : Prop := Top VP LP mean mg mb h
abbrev Led := List (Addr × Obj)

/-- a frame: what does not turn while its body runs -/
structure Cx where
  w : World
  mean : ExcName → Option Value
  mg : Str → Option Value
  mb : Str → Option Value
  base : Heap
  A₀ : Around
  outer : List Env
  cn : Str
  cs : Scope
  L : Addr
  a : Addr
  ccd : Value
  g₀ : Heap
  fix : Bool
  rk : Nat
  os : OsState
  cmp : Option (Env × (Str → Option Value))
abbrev Cx.env (c : Cx) : Env := envOf c.cn c.cs c.L c.a c.ccd
/-- where expressions are evaluated: in the frame, or in a comprehension inside it -/
def Cx.en (c : Cx) : Env := match c.cmp with
  | none => c.env
  | some p => p.1
def Cx.fm (c : Cx) (m : Str → Option Value) : Str → Option Value := match c.cmp with
  | none => m
  | some p => p.2
abbrev Cx.A (c : Cx) : Around := c.A₀.deeper c.env
abbrev Cx.fs (c : Cx) : List Addr := c.outer.filterMap (·.frame)
abbrev Cx.M (c : Cx) : Model := model P c.w
structure Cx.Ok (c : Cx) : Prop where
  kind : c.cs.kind = .function
  XB : (KF c.w).In c.base
  TB : TP c.mean c.mg c.mb c.base
  hh : c.A₀.handled = none
  dep : c.A₀.depth + 8 * c.rk ≤ 950
  uni : c.A₀.units + 100 * c.rk ≤ 9000
  ek : c.en.scope.kind = .function
  eg : c.en.globals = mainGlobals
  eb : c.en.builtins = builtinsNs
  bt : c.base.get? 392 = none

structure Gr0 (c : Cx) (m : Str → Option Value) (h₀ h : Heap) : Prop where
  fixd : c.fix = true → h₀ = c.g₀
  turn : Trn c.fs c.g₀ h₀
  B : Below c.A₀ c.base c.outer h₀
  F : Fr h₀ c.L h (c.fm m)
  X : (KF c.w).In h₀
  T : TP c.mean c.mg c.mb h₀
  D : KtsDicts c.fs h₀
  tb : TabIn h₀
def CmpOk (c : Cx) (m : Str → Option Value) (news : Led) : Prop := match c.cmp with
  | none => True
  | some p => ∃ oC, (p.1.locals, oC) ∈ news ∧ LCg.NsObj oC m
structure Gr (c : Cx) (m : Str → Option Value) (news : Led) (h₀ h : Heap) : Prop extends Gr0 c m h₀ h where
  N : News h₀ c.L h news
  K : CmpOk c m news

structure St (c : Cx) (m : Str → Option Value) (news : Led) (s : Shared) : Prop where
  os : s.os = c.os
  ga : AllBare s.gens
  gr : ∃ h₀, Gr c m news h₀ s.heap

/-- data and the few other things that names hold -/
inductive D where
  | dat (x : Dat)
  | inst (C : Addr) (fs : List (Str × Dat)) (no : List Str)
  | own (x C : Addr) (fs : List (Str × Dat)) (no : List Str)
  | mat (t : Str) (spans : List Int)
  | val (v : Value)
  | any

def FieldsIn (news : Led) (es : List DictEntry) (fs : List (Str × Dat)) : Prop := ∀ k d, fs.lookup k = some d → ∃ v, getL k es = some (some v) ∧ DatIn news v d
noncomputable abbrev matchObj (t : Str) (tk : Tok) (p : Value) (a b : Value) (li : Value) (tp : Addr) : Obj := { cls := .type "re.Match", data := .fields #[.str t tk, p, a, b, li, .ref tp] }
inductive DIn (news : Led) : Value → D → Prop
  | dat {v x} : DatIn news v x → DIn news v (.dat x)
  | inst {x dx C : Addr} {es : List DictEntry} {n : Nat} {fs : List (Str × Dat)} {no : List Str} : (x, instObj C dx) ∈ news → (dx, dictOf es n) ∈ news →
      FieldsIn news es fs → (∀ k ∈ no, getL k es = some none) → DIn news (.ref x) (.inst C fs no)
  | own {x dx C : Addr} {es : List DictEntry} {n : Nat} {fs : List (Str × Dat)} {no : List Str} : (x, instObj C dx) ∈ news → (dx, dictOf es n) ∈ news →
      FieldsIn news es fs → (∀ k ∈ no, getL k es = some none) → DIn news (.ref x) (.own x C fs no)
  | mat {x tp : Addr} {t : Str} {tk : Tok} {p a b li : Value} {spans : List Int} {u v : Value} : (x, matchObj t tk p a b li tp) ∈ news →
      (tp, ({ cls := .type "tuple", data := .seq (u :: v :: spans.map rawInt).toArray 0 } : Obj)) ∈ news → DIn news (.ref x) (.mat t spans)
  | val {v} : DIn news v (.val v)
  | any {a} : DIn news (.ref a) .any

def DAll (news : Led) : List Value → List D → Prop
  | [], [] => True
  | v :: vs, d :: ds => DIn news v d ∧ DAll news vs ds
  | _, _ => False

theorem FieldsIn.mono {news news' : Led} {es : List DictEntry} (hs : news ⊆ news') {fs : List (Str × Dat)} (h : FieldsIn news es fs) : FieldsIn news' es fs :=
  fun k d e => let ⟨v, a, b⟩ := h k d e; ⟨v, a, b.mono hs⟩
theorem DIn.mono {news news' : Led} {v : Value} {d : D} (h : DIn news v d) (hs : news ⊆ news') : DIn news' v d := by
  cases h with
  | dat x => exact .dat (x.mono hs)
  | inst a b e e' => exact .inst (hs a) (hs b) (e.mono hs) e'
  | own a b e e' => exact .own (hs a) (hs b) (e.mono hs) e'
  | mat a b => exact .mat (hs a) (hs b)
  | val => exact .val
  | any => exact .any
theorem DIn.ofOwn {news : Led} {v : Value} {x C : Addr} {fs : List (Str × Dat)} {no : List Str} (h : DIn news v (.own x C fs no)) : DIn news v (.inst C fs no) ∧ v = .ref x := by
  cases h with
  | own a b e e' => exact ⟨.inst a b e e', rfl⟩
theorem DAll.mono {news news' : Led} (hs : news ⊆ news') : ∀ {vs : List Value} {ds : List D}, DAll news vs ds → DAll news' vs ds
  | [], [], _ => trivial
  | _ :: _, _ :: _, ⟨a, b⟩ => ⟨a.mono hs, DAll.mono hs b⟩

abbrev Rho := Str → Option D
def upd (ρ : Rho) (x : Str) (d : D) : Rho := fun y => if y = x then some d else ρ y
def Loc (ρ : Rho) (m : Str → Option Value) (news : Led) : Prop := ∀ y d, ρ y = some d → ∃ v, m y = some v ∧ DIn news v d
theorem Loc.mono {ρ : Rho} {m : Str → Option Value} {news news' : Led} (h : Loc ρ m news) (hs : news ⊆ news') : Loc ρ m news' := fun y d e => let ⟨v, a, b⟩ := h y d e; ⟨v, a, b.mono hs⟩
theorem Loc.upd {ρ : Rho} {m : Str → Option Value} {news : Led} {x : Str} {v : Value} {d : D} (h : Loc ρ m news) (hv : DIn news v d) : Loc (upd ρ x d) (fun y => if y = x then some v else m y) news := by
  intro y e q
  unfold Mine.upd at q
  by_cases hy : y = x
  · rw [if_pos hy] at q; cases q; exact ⟨v, if_pos hy, hv⟩
  · rw [if_neg hy] at q; obtain ⟨u, a, b⟩ := h y e q; exact ⟨u, (if_neg hy).trans a, b⟩

/-- an exception that came out of a def that this frame called -/
def Flown (c : Cx) (m : Str → Option Value) (news : Led) (x : Value) (s : Shared) : Prop :=
  ∃ e t vs G h₀, x = .ref e ∧ s.os = c.os ∧ AllBare s.gens ∧ Gr0 c m h₀ G ∧ RaisedS c.base G (c.env :: c.outer) e (.type "ValueError") t vs news s.heap ∧ G.UpToSlots s.heap
/-- an exception made in this frame -/
def MadeHere (c : Cx) (m : Str → Option Value) (news : Led) (x : Value) (s : Shared) : Prop :=
  ∃ e vs h h₀, x = .ref e ∧ s.os = c.os ∧ AllBare s.gens ∧ Gr0 c m h₀ h ∧ News h₀ c.L h news ∧ Heap.MadeExcOf h s.heap e (.type "ValueError") vs

def VPost (c : Cx) (m : Str → Option Value) (news : Led) (r : Option D) (Q : Value → Shared → Prop) (E : Value → Shared → Prop) : Prop :=
  match r with
  | some d => ∀ v news' s', news ⊆ news' → St c m news' s' → DIn news' v d → Q v s'
  | none => ∀ x s', Flown c m news x s' → E x s'
def BPost (c : Cx) (m : Str → Option Value) (news : Led) (r : Option Bool) (Q : Bool → Shared → Prop) (E : Value → Shared → Prop) : Prop :=
  match r with
  | some b => ∀ news' s', news ⊆ news' → St c m news' s' → Q b s'
  | none => ∀ x s', Flown c m news x s' → E x s'

def TV (c : Cx) (news₀ : Led) (t : Sem Value) (r : Option D) : Prop :=
  ∀ m news s Q E, news₀ ⊆ news → St c m news s → VPost c m news r Q E → wpAny c.M c.A t Q E s
def TB (c : Cx) (news₀ : Led) (t : Sem Bool) (r : Option Bool) : Prop :=
  ∀ m news s Q E, news₀ ⊆ news → St c m news s → BPost c m news r Q E → wpAny c.M c.A t Q E s
def EV (c : Cx) (ρ : Rho) (e : Expr) (r : Option D) : Prop :=
  ∀ m news s Q E, St c m news s → Loc ρ m news → VPost c m news r Q E → wpAny c.M c.A (eval e c.en) Q E s
def ET (c : Cx) (ρ : Rho) (e : Expr) (r : Option Bool) : Prop :=
  ∀ m news s Q E, St c m news s → Loc ρ m news → BPost c m news r Q E → wpAny c.M c.A (isTrue e c.en (eval e c.en)) Q E s

inductive Out where
  | next (ρ : Rho)
  | ret (d : D)
  | err
def XPost (c : Cx) (news : Led) (o : Out) (Q : Flow → Shared → Prop) (E : Value → Shared → Prop) : Prop :=
  match o with
  | .next ρ' => ∀ m' news' s', news ⊆ news' → St c m' news' s' → Loc ρ' m' news' → Q .next s'
  | .ret d => ∀ m' v news' s', news ⊆ news' → St c m' news' s' → DIn news' v d → Q (.ret v) s'
  | .err => ∀ m' x s', Flown c m' news x s' ∨ MadeHere c m' news x s' → E x s'
def EX (c : Cx) (ρ : Rho) (ss : List Stmt) (o : Out) : Prop :=
  c.cmp = none → ∀ m news s Q E, PassesOwn c.M c.A c.env E → St c m news s → Loc ρ m news → XPost c news o Q E → wpAny c.M c.A (execs ss c.env) Q E s
def EX1 (c : Cx) (ρ : Rho) (st : Stmt) (o : Out) : Prop :=
  c.cmp = none → ∀ m news s Q E, PassesOwn c.M c.A c.env E → St c m news s → Loc ρ m news → XPost c news o Q E → wpAny c.M c.A (exec st c.env) Q E s

section
variable {c : Cx} {m : Str → Option Value} {news news' : Led} {s s' : Shared} {ρ ρ' : Rho}
theorem CmpOk.mono (h : CmpOk c m news) (hs : news ⊆ news') : CmpOk c m news' := by
  unfold CmpOk at h ⊢
  split
  · trivial
  · rename_i p hp
    rw [hp] at h
    obtain ⟨oC, a, b⟩ := h
    exact ⟨oC, hs a, b⟩
theorem CmpOk.none (h : c.cmp = Option.none) : CmpOk c m news := by
  unfold CmpOk
  rw [h]; trivial
theorem Cx.en_eq (h : c.cmp = Option.none) : c.en = c.env := by
  unfold Cx.en
  rw [h]
theorem Cx.fm_eq (h : c.cmp = Option.none) : c.fm m = m := by
  unfold Cx.fm
  rw [h]
theorem Gr.sub {h₀ h : Heap} (G : Gr c m news' h₀ h) (hc : c.cmp = Option.none) (hs : news ⊆ news') : Gr c m news h₀ h := ⟨G.toGr0, fun p hp => G.N p (hs hp), .none hc⟩
theorem Gr0.at {h₀ h h' : Heap} {m' : Str → Option Value} (G : Gr0 c m h₀ h) (F : Fr h₀ c.L h' (c.fm m')) : Gr0 c m' h₀ h' := ⟨G.fixd, G.turn, G.B, F, G.X, G.T, G.D, G.tb⟩
theorem Gr.at {h₀ h h' : Heap} {n₀ : Led} (G : Gr c m n₀ h₀ h) (F : Fr h₀ c.L h' (c.fm m)) (N : News h₀ c.L h' news) (hs : n₀ ⊆ news := by first | exact List.Subset.refl _ | exact List.subset_cons_self _ _ | (intro _ hp; exact List.mem_cons_of_mem _ (List.mem_cons_of_mem _ hp))) : Gr c m news h₀ h' := ⟨G.toGr0.at F, N, G.K.mono hs⟩
theorem Gr.ns {h₀ h : Heap} (G : Gr c m news h₀ h) : h.Ns c.en.locals m := by
  have F := G.F
  have K := G.K
  unfold Cx.fm at F
  unfold CmpOk at K
  unfold Cx.en
  cases hc : c.cmp with
  | none => rw [hc] at F; exact F.ns
  | some p =>
    rw [hc] at K
    obtain ⟨oC, a, b⟩ := K
    exact b.ns (G.N _ a).1
theorem RaisedS.sub {base G : Heap} {l : List Env} {e t : Addr} {cls : Value} {vs : List Value} {h : Heap} (R : RaisedS base G l e cls t vs news' h) (hs : news ⊆ news') : RaisedS base G l e cls t vs news h :=
  let ⟨⟨B, a, b, k, r⟩, t⟩ := R; ⟨⟨B, a, b, fun q hq => k q (hs hq), r⟩, t⟩
theorem Flown.sub {x : Value} (h : Flown c m news' x s) (hs : news ⊆ news') : Flown c m news x s :=
  let ⟨e, t, vs, G, h₀, a, b, b', g, r, u⟩ := h; ⟨e, t, vs, G, h₀, a, b, b', g, RaisedS.sub r hs, u⟩
theorem MadeHere.sub {x : Value} (h : MadeHere c m news' x s) (hs : news ⊆ news') : MadeHere c m news x s :=
  let ⟨e, vs, h, h₀, a, b, b', g, n, r⟩ := h; ⟨e, vs, h, h₀, a, b, b', g, fun p hp => n p (hs hp), r⟩
theorem VPost.sub {r : Option D} {Q : Value → Shared → Prop} {E : Value → Shared → Prop} (h : VPost c m news r Q E) (hs : news ⊆ news') : VPost c m news' r Q E := by
  cases r with
  | some d => exact fun v n s' hn => h v n s' (fun _ hp => hn (hs hp))
  | none => exact fun x s' hf => h x s' (hf.sub hs)
theorem BPost.sub {r : Option Bool} {Q : Bool → Shared → Prop} {E : Value → Shared → Prop} (h : BPost c m news r Q E) (hs : news ⊆ news') : BPost c m news' r Q E := by
  cases r with
  | some d => exact fun n s' hn => h n s' (fun _ hp => hn (hs hp))
  | none => exact fun x s' hf => h x s' (hf.sub hs)
theorem XPost.sub {o : Out} {Q : Flow → Shared → Prop} {E : Value → Shared → Prop} (h : XPost c news o Q E) (hs : news ⊆ news') : XPost c news' o Q E := by
  cases o with
  | next ρ' => exact fun m' n s' hn => h m' n s' (fun _ hp => hn (hs hp))
  | ret d => exact fun m' v n s' hn => h m' v n s' (fun _ hp => hn (hs hp))
  | err => exact fun m' x s' hf => h m' x s' (hf.imp (·.sub hs) (·.sub hs))
theorem VPost.ok {d : D} {Q : Value → Shared → Prop} {E : Value → Shared → Prop} (h : VPost c m news (some d) Q E) {v : Value} (hn : news ⊆ news') (S : St c m news' s') (hd : DIn news' v d) : Q v s' := h v news' s' hn S hd
theorem BPost.ok {b : Bool} {Q : Bool → Shared → Prop} {E : Value → Shared → Prop} (h : BPost c m news (some b) Q E) (hn : news ⊆ news') (S : St c m news' s') : Q b s' := h news' s' hn S

/-- more tokens, the same heap -/
theorem St.toks {n : Nat} (S : St c m news s) : St c m news { s with toks := n } := ⟨S.os, S.ga, S.gr⟩
theorem St.heap {n : Nat} {h' : Heap} {m' : Str → Option Value} (S : St c m news s) (g : ∃ h₀, Gr c m' news' h₀ h') : St c m' news' { s with heap := h', toks := n } := ⟨S.os, S.ga, g⟩

/-! names and constants -/
theorem ev_local (O : c.Ok) {x : Str} {pos : Pos} {d : D} (hd : ρ x = some d) (hl : c.en.kindOf x = some .local) (hx : (x == ("__debug__" : Str)) = false) : EV c ρ (.Name x pos) (some d) := by
  intro m news s Q E S hρ hQ
  obtain ⟨v, hv, hi⟩ := hρ x d hd
  obtain ⟨h₀, G⟩ := S.gr
  exact wpAny_Name (wpAny_loadName_local O.ek hl G.ns hv (hQ.ok (List.Subset.refl _) S hi)) hx
theorem glob_ns {h₀ h : Heap} (O : c.Ok) (G : Gr c m news h₀ h) : h.Ns c.en.globals c.mg := by rw [O.eg]; exact (topRead_of G.T).g.keeps G.F.keep
theorem bltn_ns {h₀ h : Heap} (O : c.Ok) (G : Gr c m news h₀ h) : h.Ns c.en.builtins c.mb := by rw [O.eb]; exact (topRead_of G.T).b.keeps G.F.keep
theorem ev_K (O : c.Ok) {x : Str} {pos : Pos} {v : Value} (e : nsIn (KF c.w) mainGlobals x = some (some v)) (hl : c.en.kindOf x = some .globalImplicit) (hx : (x == ("__debug__" : Str)) = false) : EV c ρ (.Name x pos) (some (.val v)) := by
  intro m news s Q E S hρ hQ
  obtain ⟨h₀, G⟩ := S.gr
  exact Calls.Name_function_global O.ek hl (Calls.loadGlobal_global (glob_ns O G) (mg_of G.X (topRead_of G.T).g e) (hQ.ok (List.Subset.refl _) S .val)) hx
theorem ev_Kstr (O : c.Ok) {x : Str} {pos : Pos} {u : Str} {t : Tok} (e : nsIn (KF c.w) mainGlobals x = some (some (.str u t))) (hl : c.en.kindOf x = some .globalImplicit) (hx : (x == ("__debug__" : Str)) = false) : EV c ρ (.Name x pos) (some (.dat (.str u))) := by
  intro m news s Q E S hρ hQ
  obtain ⟨h₀, G⟩ := S.gr
  exact Calls.Name_function_global O.ek hl (Calls.loadGlobal_global (glob_ns O G) (mg_of G.X (topRead_of G.T).g e) (hQ.ok (List.Subset.refl _) S (.dat (.str u t)))) hx
theorem ev_B (O : c.Ok) {x : Str} {pos : Pos} {v : Value} (e : nsIn (KF c.w) mainGlobals x = some none) (hv : bootBuiltins x = some v) (hn : x ≠ "__name__") (hl : c.en.kindOf x = some .globalImplicit) (hx : (x == ("__debug__" : Str)) = false) : EV c ρ (.Name x pos) (some (.val v)) := by
  intro m news s Q E S hρ hQ
  obtain ⟨h₀, G⟩ := S.gr
  exact Calls.Name_function_global O.ek hl (Calls.loadGlobal_builtin (glob_ns O G) (mg_none_of G.X (topRead_of G.T).g e) (bltn_ns O G) (((topRead_of G.T).builtins x hn).trans hv) (hQ.ok (List.Subset.refl _) S .val)) hx
theorem ev_none {k : Nat} {pos : Pos} : EV c ρ (.Constant .none k pos) (some (.dat .none)) := fun _ _ _ _ _ S _ hQ => wpAny_Constant_none (hQ.ok (List.Subset.refl _) S (.dat .none))
theorem ev_bool {b : Bool} {k : Nat} {pos : Pos} : EV c ρ (.Constant (.bool b) k pos) (some (.dat (.bool b))) := fun _ _ _ _ _ S _ hQ => wpAny_Constant_bool (hQ.ok (List.Subset.refl _) S (.dat (.bool b)))
theorem ev_int {i : Int} {k : Nat} {pos : Pos} : EV c ρ (.Constant (.int i) k pos) (some (.dat (.int i))) := fun _ _ _ _ _ S _ hQ => wpAny_Constant_int (hQ.ok (List.Subset.refl _) S.toks (.dat (.int i _)))
theorem ev_str {u : Str} {k : Nat} {pos : Pos} : EV c ρ (.Constant (.str u) k pos) (some (.dat (.str u))) := fun _ _ _ _ _ S _ hQ => wpAny_Constant_str (hQ.ok (List.Subset.refl _) S.toks (.dat (.str u _)))

/-! two operands -/
def OP (c : Cx) (f : Value → Value → Sem Value) (d₁ d₂ : D) (r : Option D) : Prop :=
  ∀ m news s v₁ v₂ Q E, St c m news s → DIn news v₁ d₁ → DIn news v₂ d₂ → VPost c m news r Q E → wpAny c.M c.A (f v₁ v₂) Q E s
def O1 (c : Cx) (f : Value → Sem Value) (d₁ : D) (r : Option D) : Prop :=
  ∀ m news s v₁ Q E, St c m news s → DIn news v₁ d₁ → VPost c m news r Q E → wpAny c.M c.A (f v₁) Q E s
def OB (c : Cx) (f : Value → Sem Bool) (d₁ : D) (r : Option Bool) : Prop :=
  ∀ m news s v₁ Q E, St c m news s → DIn news v₁ d₁ → BPost c m news r Q E → wpAny c.M c.A (f v₁) Q E s
theorem ev_binop {l r : Expr} {op : Operator} {pos : Pos} {d₁ d₂ : D} {d : Option D} (h1 : EV c ρ l (some d₁)) (h2 : EV c ρ r (some d₂)) (ho : OP c (binaryOp op) d₁ d₂ d) : EV c ρ (.BinOp l op r pos) d := by
  intro m news s Q E S hρ hQ
  refine wpAny_BinOp (h1 m news s _ _ S hρ fun v n₁ s₁ hn₁ S₁ hv => ?_)
  refine h2 m n₁ s₁ _ _ S₁ (hρ.mono hn₁) fun u n₂ s₂ hn₂ S₂ hu => ?_
  exact ho m n₂ s₂ v u Q E S₂ (hv.mono hn₂) hu (hQ.sub fun _ hp => hn₂ (hn₁ hp))
theorem ev_compare {l r : Expr} {op : CmpOp} {pos : Pos} {d₁ d₂ : D} {d : Option D} (h1 : EV c ρ l (some d₁)) (h2 : EV c ρ r (some d₂)) (ho : OP c (compareOp op) d₁ d₂ d) (hm : behindInMarks op r = false := by with_unfolding_all rfl) : EV c ρ (.Compare l [op] [r] pos) d := by
  intro m news s Q E S hρ hQ
  refine wpAny_Compare1 (h1 m news s _ _ S hρ fun v n₁ s₁ hn₁ S₁ hv => ?_) hm
  refine h2 m n₁ s₁ _ _ S₁ (hρ.mono hn₁) fun u n₂ s₂ hn₂ S₂ hu => ?_
  exact ho m n₂ s₂ v u Q E S₂ (hv.mono hn₂) hu (hQ.sub fun _ hp => hn₂ (hn₁ hp))
theorem et_compare {l r : Expr} {op : CmpOp} {pos : Pos} {d₁ d₂ : D} {b : Bool} (h1 : EV c ρ l (some d₁)) (h2 : EV c ρ r (some d₂)) (ho : OP c (compareOp op) d₁ d₂ (some (.dat (.bool b)))) (hm : behindInMarks op r = false := by with_unfolding_all rfl) : ET c ρ (.Compare l [op] [r] pos) (some b) := by
  intro m news s Q E S hρ hQ
  refine wpAny_isTrue_Compare1 (h1 m news s _ _ S hρ fun v n₁ s₁ hn₁ S₁ hv => ?_) hm
  refine h2 m n₁ s₁ _ _ S₁ (hρ.mono hn₁) fun u n₂ s₂ hn₂ S₂ hu => ?_
  refine ho m n₂ s₂ v u _ E S₂ (hv.mono hn₂) hu fun w n₃ s₃ hn₃ S₃ hw => ?_
  cases hw with
  | dat hw => cases hw; exact wpAny_truthy_bool (hQ.ok (fun _ hp => hn₃ (hn₂ (hn₁ hp))) S₃)
theorem ev_unary {x : Expr} {op : UnaryOp} {pos : Pos} {d₁ : D} {d : Option D} (h1 : EV c ρ x (some d₁)) (ho : O1 c (unaryOp op) d₁ d) : EV c ρ (.UnaryOp op x pos) d := by
  intro m news s Q E S hρ hQ
  exact wpAny_UnaryOp (h1 m news s _ _ S hρ fun v n₁ s₁ hn₁ S₁ hv => ho m n₁ s₁ v Q E S₁ hv (hQ.sub hn₁))
theorem ev_not {x : Expr} {pos : Pos} {d₁ : D} {b : Bool} (h1 : EV c ρ x (some d₁)) (ho : OB c truthy d₁ (some b)) : EV c ρ (.UnaryOp .Not x pos) (some (.dat (.bool (!b)))) := by
  refine ev_unary h1 fun m news s v Q E S hv hQ => not_value (ho m news s v _ E S hv fun n' s' hn S' => ?_)
  exact hQ.ok hn S' (.dat (.bool _))
theorem et_value {e : Expr} {d : D} {b : Bool} (h1 : EV c ρ e (some d)) (ho : OB c truthy d (some b)) (he : ∀ whole, isTrue e c.en whole = (do let v ← whole; standAt e.pos; holding [v] (truthy v)) := by intro _; rfl) : ET c ρ e (some b) := by
  intro m news s Q E S hρ hQ
  exact wpAny_isTrue_value (h1 m news s _ _ S hρ fun v n₁ s₁ hn₁ S₁ hv => ho m n₁ s₁ v Q E S₁ hv (hQ.sub hn₁)) (he _)
theorem et_not {x : Expr} {pos : Pos} {b : Bool} (h1 : ET c ρ x (some b)) : ET c ρ (.UnaryOp .Not x pos) (some (!b)) := by
  intro m news s Q E S hρ hQ
  exact wpAny_isTrue_Not (h1 m news s _ _ S hρ fun n₁ s₁ hn₁ S₁ => hQ.ok hn₁ S₁)
/-- and, or in a test -/
def ETs (c : Cx) (ρ : Rho) (op : BoolOp) (es : List Expr) (r : Option Bool) : Prop :=
  ∀ m news s Q E, St c m news s → Loc ρ m news → BPost c m news r Q E → wpAny c.M c.A (allTrue op es c.en) Q E s
theorem et_boolop {op : BoolOp} {es : List Expr} {pos : Pos} {r : Option Bool} (h : ETs c ρ op es r) : ET c ρ (.BoolOp op es pos) r := fun m news s Q E S hρ hQ => wpAny_isTrue_BoolOp (h m news s Q E S hρ hQ)
theorem ets_and_nil : ETs c ρ .And [] (some true) := fun m news s Q E S hρ hQ => wpAny_allTrue_And_nil (hQ.ok (List.Subset.refl _) S)
theorem ets_or_nil : ETs c ρ .Or [] (some false) := fun m news s Q E S hρ hQ => wpAny_allTrue_Or_nil (hQ.ok (List.Subset.refl _) S)
theorem ets_and {x : Expr} {rest : List Expr} {b b' : Bool} (h : ET c ρ x (some b)) (k : b = true → ETs c ρ .And rest (some b')) : ETs c ρ .And (x :: rest) (some (b && b')) := by
  intro m news s Q E S hρ hQ
  refine wpAny_allTrue_And_cons (h m news s _ _ S hρ fun n₁ s₁ hn₁ S₁ => ?_)
  cases b with
  | true => exact k rfl m n₁ s₁ Q E S₁ (hρ.mono hn₁) (hQ.sub hn₁)
  | false => exact hQ.ok hn₁ S₁
theorem ets_or {x : Expr} {rest : List Expr} {b b' : Bool} (h : ET c ρ x (some b)) (k : b = false → ETs c ρ .Or rest (some b')) : ETs c ρ .Or (x :: rest) (some (b || b')) := by
  intro m news s Q E S hρ hQ
  refine wpAny_allTrue_Or_cons (h m news s _ _ S hρ fun n₁ s₁ hn₁ S₁ => ?_)
  cases b with
  | false => exact k rfl m n₁ s₁ Q E S₁ (hρ.mono hn₁) (hQ.sub hn₁)
  | true => exact hQ.ok hn₁ S₁
/-- and, or as a value -/
theorem ev_bool_one {op : BoolOp} {e : Expr} {pos : Pos} {r : Option D} (h : EV c ρ e r) : EV c ρ (.BoolOp op [e] pos) r := fun m news s Q E S hρ hQ => BoolOp_one (h m news s Q E S hρ hQ)
theorem ev_and {x y : Expr} {rest : List Expr} {pos : Pos} {d : D} {b : Bool} {r : Option D} (h : EV c ρ x (some d)) (hb : OB c truthy d (some b)) (k : b = true → EV c ρ (.BoolOp .And (y :: rest) pos) r) (k' : b = false → r = some d) : EV c ρ (.BoolOp .And (x :: y :: rest) pos) r := by
  intro m news s Q E S hρ hQ
  refine BoolOp_and (h m news s _ _ S hρ fun v n₁ s₁ hn₁ S₁ hv => hb m n₁ s₁ v _ E S₁ hv fun n₂ s₂ hn₂ S₂ => ?_)
  cases b with
  | true => exact k rfl m n₂ s₂ Q E S₂ (hρ.mono fun _ hp => hn₂ (hn₁ hp)) (hQ.sub fun _ hp => hn₂ (hn₁ hp))
  | false =>
    obtain rfl := k' rfl
    exact hQ.ok (fun _ hp => hn₂ (hn₁ hp)) S₂ (hv.mono hn₂)
theorem ev_or {x y : Expr} {rest : List Expr} {pos : Pos} {d : D} {b : Bool} {r : Option D} (h : EV c ρ x (some d)) (hb : OB c truthy d (some b)) (k : b = false → EV c ρ (.BoolOp .Or (y :: rest) pos) r) (k' : b = true → r = some d) : EV c ρ (.BoolOp .Or (x :: y :: rest) pos) r := by
  intro m news s Q E S hρ hQ
  refine BoolOp_or (h m news s _ _ S hρ fun v n₁ s₁ hn₁ S₁ hv => hb m n₁ s₁ v _ E S₁ hv fun n₂ s₂ hn₂ S₂ => ?_)
  cases b with
  | false => exact k rfl m n₂ s₂ Q E S₂ (hρ.mono fun _ hp => hn₂ (hn₁ hp)) (hQ.sub fun _ hp => hn₂ (hn₁ hp))
  | true =>
    obtain rfl := k' rfl
    exact hQ.ok (fun _ hp => hn₂ (hn₁ hp)) S₂ (hv.mono hn₂)
theorem ev_ifexp {t x y : Expr} {pos : Pos} {b : Bool} {r : Option D} (h : ET c ρ t (some b)) (h1 : b = true → EV c ρ x r) (h2 : b = false → EV c ρ y r) : EV c ρ (.IfExp t x y pos) r := by
  intro m news s Q E S hρ hQ
  refine wpAny_IfExp (h m news s _ _ S hρ fun n₁ s₁ hn₁ S₁ => ?_)
  cases b with
  | true => exact h1 rfl m n₁ s₁ Q E S₁ (hρ.mono hn₁) (hQ.sub hn₁)
  | false => exact h2 rfl m n₁ s₁ Q E S₁ (hρ.mono hn₁) (hQ.sub hn₁)

/-! statements -/
theorem EV.env {e : Expr} {r : Option D} (hc : c.cmp = none) (h : EV c ρ e r) : ∀ m news s Q E, St c m news s → Loc ρ m news → VPost c m news r Q E → wpAny c.M c.A (eval e c.env) Q E s := by
  rw [← Cx.en_eq hc]; exact h
theorem ET.env {e : Expr} {r : Option Bool} (hc : c.cmp = none) (h : ET c ρ e r) : ∀ m news s Q E, St c m news s → Loc ρ m news → BPost c m news r Q E → wpAny c.M c.A (isTrue e c.env (eval e c.env)) Q E s := by
  rw [← Cx.en_eq hc]; exact h
theorem ex_nil : EX c ρ [] (.next ρ) := fun _ m news s Q E _ S hρ hQ => wpAny_execs_nil (hQ m news s (List.Subset.refl _) S hρ)
theorem ex_cons {st : Stmt} {rest : List Stmt} {o : Out} (h : EX1 c ρ st (.next ρ')) (k : EX c ρ' rest o) : EX c ρ (st :: rest) o := by
  intro hc m news s Q E hE S hρ hQ
  refine wpAny_execs_cons (h hc m news s _ E hE S hρ fun m₁ n₁ s₁ hn₁ S₁ hρ₁ => ?_)
  exact k hc m₁ n₁ s₁ Q E hE S₁ hρ₁ (hQ.sub hn₁)
theorem ex_ret {st : Stmt} {rest : List Stmt} {d : D} (h : EX1 c ρ st (.ret d)) : EX c ρ (st :: rest) (.ret d) := fun hc m news s Q E hE S hρ hQ =>
  wpAny_execs_cons (h hc m news s _ E hE S hρ fun m₁ v n₁ s₁ hn₁ S₁ hv => hQ m₁ v n₁ s₁ hn₁ S₁ hv)
theorem ex_err {st : Stmt} {rest : List Stmt} (h : EX1 c ρ st .err) : EX c ρ (st :: rest) .err := fun hc m news s Q E hE S hρ hQ =>
  wpAny_execs_cons (h hc m news s _ E hE S hρ fun m₁ x s₁ hx => hQ m₁ x s₁ hx)
theorem ex_if {t : Expr} {body orelse : List Stmt} {pos : Pos} {b : Bool} {o : Out} (h : ET c ρ t (some b)) (h1 : b = true → EX c ρ body o) (h2 : b = false → EX c ρ orelse o) : EX1 c ρ (.If t body orelse pos) o := by
  intro hc m news s Q E hE S hρ hQ
  refine wpAny_If (h.env hc m news s _ _ S hρ fun n₁ s₁ hn₁ S₁ => ?_)
  cases b with
  | true => exact h1 rfl hc m n₁ s₁ Q E hE S₁ (hρ.mono hn₁) (hQ.sub hn₁)
  | false => exact h2 rfl hc m n₁ s₁ Q E hE S₁ (hρ.mono hn₁) (hQ.sub hn₁)
theorem ex_if_err {t : Expr} {body orelse : List Stmt} {pos : Pos} (h : ET c ρ t none) : EX1 c ρ (.If t body orelse pos) .err := by
  intro hc m news s Q E hE S hρ hQ
  exact wpAny_If (h.env hc m news s _ _ S hρ fun x s' hf => hQ m x s' (.inl hf))
theorem ex_return {e : Expr} {pos : Pos} {d : D} (h : EV c ρ e (some d)) : EX1 c ρ (.Return (some e) pos) (.ret d) := fun hc m news s Q E hE S hρ hQ =>
  wpAny_Return_some (h.env hc m news s _ _ S hρ fun v n₁ s₁ hn₁ S₁ hv => hQ m v n₁ s₁ hn₁ S₁ hv)
theorem ex_return_err {e : Expr} {pos : Pos} (h : EV c ρ e none) : EX1 c ρ (.Return (some e) pos) .err := fun hc m news s Q E hE S hρ hQ =>
  wpAny_Return_some (h.env hc m news s _ _ S hρ fun x s' hf => hQ m x s' (.inl hf))
theorem st_store (O : c.Ok) (hc : c.cmp = none) {x : Str} {v : Value} {Q : Unit → Shared → Prop} {E : Value → Shared → Prop} (S : St c m news s) (hl : c.env.kindOf x = some .local)
    (h : ∀ s', St c (fun y => if y = x then some v else m y) news s' → Q () s') : wpAny c.M c.A (storeName c.env x v) Q E s := by
  obtain ⟨h₀, G⟩ := S.gr
  have F := G.F
  rw [Cx.fm_eq hc] at F
  exact stN F G.N (fun h' F' N' => h _ (S.heap ⟨h₀, G.toGr0.at (by rw [Cx.fm_eq hc]; exact F'), N', .none hc⟩)) O.kind hl
theorem ex_assign (O : c.Ok) {x : Str} {e : Expr} {px pos : Pos} {d : D} (h : EV c ρ e (some d)) (hl : c.env.kindOf x = some .local)
    (hs : swapsWith e (some (.Name x px)) pos.line c.env = pure false := by rfl) : EX1 c ρ (.Assign [.Name x px] e pos) (.next (upd ρ x d)) := by
  intro hc m news s Q E hE S hρ hQ
  refine wpAny_Assign_Name (h.env hc m news s _ _ S hρ fun v n₁ s₁ hn₁ S₁ hv => ?_) hs
  exact st_store O hc S₁ hl fun s₂ S₂ => hQ _ n₁ s₂ hn₁ S₂ ((hρ.mono hn₁).upd hv)
theorem ex_assign_err {x : Str} {e : Expr} {px pos : Pos} (h : EV c ρ e none)
    (hs : swapsWith e (some (.Name x px)) pos.line c.env = pure false := by rfl) : EX1 c ρ (.Assign [.Name x px] e pos) .err := by
  intro hc m news s Q E hE S hρ hQ
  exact wpAny_Assign_Name (h.env hc m news s _ _ S hρ fun x s' hf => hQ m x s' (.inl hf)) hs
end
end Mine
end
end
section
open PySem PySem.W PyProof.Rows PySem.Spec PySem.Calls
set_option maxRecDepth 100000
set_option linter.unusedVariables false
noncomputable section
namespace Mine
def KAll (news : Led) : List (Str × Value) → List (Str × D) → Prop
  | [], [] => True
  | (k, v) :: r, (k', d) :: r' => k = k' ∧ DIn news v d ∧ KAll news r r'
  | _, _ => False
def RPost (c : Cx) (m : Str → Option Value) (news : Led) (r : Option D) (R : Result → Shared → Prop) : Prop :=
  match r with
  | some d => ∀ v news' s', news ⊆ news' → St c m news' s' → DIn news' v d → R (.ok (.ret v)) s'
  | none => ∀ x s', Flown c m news x s' → R (.error x) s'
structure Near (c : Cx) (A : Around) : Prop where
  hh : A.handled = none
  fr : A.frames = some (c.env :: c.outer)
  dep : A.depth ≤ c.A₀.depth + 3
  uni : A.units ≤ c.A₀.units + 20
def FN (w : World) (rk : Nat) (cat : Bool) (f : Addr) (args : List D) (kw : List (Str × D)) (r : Option D) : Prop :=
  ∀ (c : Cx), c.Ok → c.w = w → rk < c.rk → (cat = true → c.fix = false) → ∀ (A : Around), Near c A → ∀ m news s vs kvs R,
    St c m news s → DAll news vs args → KAll news kvs kw → RPost c m news r R → codeAny (model P w) A (.call (.ref f) ⟨vs, kvs⟩) R s
def Out.res : Out → Option D
  | .next _ => some (.dat .none)
  | .ret d => some d
  | .err => none
section
variable {w : World} {rk : Nat} {cat : Bool} {f : Addr} {args : List D} {kw : List (Str × D)} {r : Option D}
theorem fn_of {name qual : Str} {params : Arguments} {body : List Stmt} {scope : Scope} {dV kV doc pm cdv ct oc : Value} {an od : Option Addr} {osl : Array (Option Value)} {ρ₀ : Rho} {o : Out}
    (ho : (KF w).lookup f = some ⟨oc, od, .func (fnOf name qual params body scope dV kV doc pm an cdv ct), osl⟩) (hcd : codeIn (KF w) cdv qual = true)
    (hbind : ∀ (news : Led) vs kvs (s : Shared), (KF w).In s.heap → DAll news vs args → KAll news kvs kw → ∃ binds, BindsTo s (fnOf name qual params body scope dV kV doc pm an cdv ct) ⟨vs, kvs⟩ binds ∧ (∀ y ∈ binds, scope.names.lookup y.1 = some .local) ∧ Loc ρ₀ (fun y => binds.reverse.lookup y) news)
    (hres : o.res = r) (herr : r = none → cat = false)
    (hbody : ∀ mean mg mb base A₀ outer L g₀ os, Cx.Ok ⟨w, mean, mg, mb, base, A₀, outer, qual, scope, L, f, cdv, g₀, !cat, rk, os, none⟩ → EX ⟨w, mean, mg, mb, base, A₀, outer, qual, scope, L, f, cdv, g₀, !cat, rk, os, none⟩ ρ₀ body o)
    (hk : scope.kind = .function) (hco : scope.isCoroutine = false) (hgen : scope.isGenerator = false) (hcell : ∀ x ∈ scope.names, x.2 ≠ .cell) : FN w rk cat f args kw r := by
  rintro c O rfl hrk hcat A NA m news s vs kvs R S hvs hkv hR
  obtain ⟨h₀, G⟩ := S.gr
  obtain ⟨binds, b1, b2, b3⟩ := hbind news vs kvs s (G.X.keeps G.F.keep) hvs hkv
  have d1 := O.dep
  have u1 := O.uni
  have d2 := NA.dep
  have u2 := NA.uni
  refine code_defT G.B G.F G.X G.N G.T O.XB O.TB G.D G.tb O.bt NA.fr ho hcd (by show A.depth < 1000; omega) b1 b2 (fun g L' h₁ FG F' N' B' X' T' D' tb' => ?_) O.kind hco hgen hk hcell
  have O' : Cx.Ok ⟨c.w, c.mean, c.mg, c.mb, c.base, A, c.env :: c.outer, qual, scope, L', f, cdv, g, !cat, rk, c.os, none⟩ := ⟨hk, O.XB, O.TB, NA.hh, by show A.depth + 8 * rk ≤ 950; omega, by show A.units + 100 * rk ≤ 9000; omega, hk, rfl, rfl, O.bt⟩
  have S' : St ⟨c.w, c.mean, c.mg, c.mb, c.base, A, c.env :: c.outer, qual, scope, L', f, cdv, g, !cat, rk, c.os, none⟩ (fun y => binds.reverse.lookup y) news { s with heap := h₁, toks := s.toks + binds.length } :=
    ⟨S.os, S.ga, g, ⟨⟨fun _ => rfl, Trn.refl, B', F', X', T', D', tb'⟩, N', .none rfl⟩⟩
  have back : ∀ m' v news' s' d, r = some d → news ⊆ news' → St ⟨c.w, c.mean, c.mg, c.mb, c.base, A, c.env :: c.outer, qual, scope, L', f, cdv, g, !cat, rk, c.os, none⟩ m' news' s' → DIn news' v d →
      LeaveT ((c.env :: c.outer).filterMap (·.frame)) c.A₀ c.base c.outer (KF c.w) VP LP c.mean c.mg c.mb h₀ c.L (c.fm m) g R v s' := by
    rintro m' v news' s' d rfl hn S' hv
    obtain ⟨g', G'⟩ := S'.gr
    cases cat with
    | false =>
      obtain rfl : g' = g := G'.fixd rfl
      exact leaveT_l G'.F G'.N fun F N => hR v news' s' hn ⟨S'.os, S'.ga, h₀, G.at F N hn⟩ hv
    | true =>
      exact leaveT_r G'.F G'.N G'.turn fun h₀' tn F N B X T D tb => hR v news' s' hn ⟨S'.os, S'.ga, h₀', ⟨⟨fun q => (by rw [hcat rfl] at q; cases q), G.turn.trans tn, B, F, X, T, D, tb⟩, N, G.K.mono hn⟩⟩ hv
  refine hbody c.mean c.mg c.mb c.base A (c.env :: c.outer) L' g c.os O' rfl _ news _ _ _ PassesOwn.leaving S' b3 ?_
  cases o with
  | next ρ' => exact fun m' news' s' hn S' hρ => back m' .none news' s' _ hres.symm hn S' (.dat .none)
  | ret d => exact fun m' v news' s' hn S' hv => back m' v news' s' d hres.symm hn S' hv
  | err =>
    obtain rfl : none = r := hres
    obtain rfl := herr rfl
    rintro m' x s' (⟨e, t, vs', G', h₀', rfl, os', ga', gr', R', U'⟩ | ⟨e, vs', h, h₀', rfl, os', ga', gr', nw', M'⟩)
    · obtain rfl : h₀' = g := gr'.fixd rfl
      exact leave_onS gr'.B gr'.F R' U' fun h' R'' _ U'' => hR _ _ ⟨e, t, vs', h₀', h₀, rfl, os', ga', G.toGr0.at FG, R'', U''⟩
    · obtain rfl : h₀' = g := gr'.fixd rfl
      exact leave_raiseS gr'.B M' gr'.F nw' (fun h' t R'' _ U'' => hR _ _ ⟨e, t, vs', h₀', h₀, rfl, os', ga', G.toGr0.at FG, R'', U''⟩) hk
end
end Mine
end
end
section
open PySem PySem.W PyProof.Rows PySem.Spec PySem.Calls
set_option maxRecDepth 100000
set_option linter.unusedVariables false
noncomputable section
namespace Mine
def EVs (c : Cx) (ρ : Rho) : List Expr → List D → Prop
  | [], [] => True
  | e :: rest, d :: ds => EV c ρ e (some d) ∧ starEach (e :: rest) c.en = (false, eval e c.en) :: starEach rest c.en ∧ EVs c ρ rest ds
  | _, _ => False
def Kws (c : Cx) (ρ : Rho) : List Keyword → List (Str × D) → Prop
  | [], [] => True
  | ⟨some n, e, _⟩ :: r, (n', d) :: r' => n = n' ∧ EV c ρ e (some d) ∧ Kws c ρ r r'
  | _, _ => False
def Keepable (c : Cx) (f : Value) (h : Heap) : Prop := ∃ k, (k = Keeper.frame ∨ k = Keeper.machine ∨ k = Keeper.boundFrame) ∧ Looks c.M h (keeperOf f) k
structure Callable (c : Cx) (news : Led) (f : Value) (first : List Value) (ds : List D) (kds : List (Str × D)) (r : Option D) : Prop where
  keep : ∀ m news' s', news ⊆ news' → St c m news' s' → Keepable c f s'.heap
  go : ∀ m news' s' vs kvs Q E, news ⊆ news' → St c m news' s' → DAll news' vs ds → KAll news' kvs kds → VPost c m news' r Q E → wpAny c.M c.A (call f (first ++ vs) kvs) Q E s'
section
variable {c : Cx} {m : Str → Option Value} {news news' : Led} {s s' : Shared} {ρ ρ' : Rho}
theorem evs_nil : EVs c ρ [] [] := trivial
theorem evs_cons {e : Expr} {rest : List Expr} {d : D} {ds : List D} (h : EV c ρ e (some d)) (k : EVs c ρ rest ds)
    (he : starEach (e :: rest) c.en = (false, eval e c.en) :: starEach rest c.en := by rfl) : EVs c ρ (e :: rest) (d :: ds) := ⟨h, he, k⟩
theorem EVs.run {pos : Pos} : ∀ {es : List Expr} {ds : List D}, EVs c ρ es ds → ∀ {m : Str → Option Value} {news : Led} {s : Shared} {Q : List Value → Shared → Prop} {E : Value → Shared → Prop}, St c m news s → Loc ρ m news →
    (∀ vs news' s', news ⊆ news' → St c m news' s' → DAll news' vs ds → Q vs s') → wpAny c.M c.A (spliced (backTo pos (starEach es c.en))) Q E s
  | [], [], _, m, news, s, Q, E, S, hρ, hQ => wpAny_items_nil (hQ [] news s (List.Subset.refl _) S trivial)
  | e :: rest, d :: ds, ⟨h, he, k⟩, m, news, s, Q, E, S, hρ, hQ => by
    refine wpAny_items_cons (h m news s _ _ S hρ fun v n₁ s₁ hn₁ S₁ hv => ?_) he
    refine EVs.run k S₁ (hρ.mono hn₁) fun vs n₂ s₂ hn₂ S₂ hvs => ?_
    exact hQ (v :: vs) n₂ s₂ (fun _ hp => hn₂ (hn₁ hp)) S₂ ⟨hv.mono hn₂, hvs⟩
theorem EVs.plain {pos : Pos} : ∀ {es : List Expr} {ds : List D}, EVs c ρ es ds → (backTo pos (starEach es c.en)).any (·.1) = false
  | [], [], _ => rfl
  | e :: rest, d :: ds, ⟨_, he, k⟩ => by
    rw [he]
    show (false || (backTo pos (starEach rest c.en)).any (·.1)) = false
    rw [EVs.plain k]; rfl
theorem KAll.mono (hs : news ⊆ news') : ∀ {kvs : List (Str × Value)} {kds : List (Str × D)}, KAll news kvs kds → KAll news' kvs kds
  | [], [], _ => trivial
  | (_, _) :: _, (_, _) :: _, ⟨a, b, r⟩ => ⟨a, b.mono hs, KAll.mono hs r⟩
theorem Kws.all {pos : Pos} : ∀ {kws : List Keyword} {kds : List (Str × D)}, Kws c ρ kws kds → (backToKw pos (keywordEach kws c.en)).all (·.1.isSome) = true ∧ (backToKw pos (keywordEach kws c.en)).any (·.1.isNone) = false
  | [], [], _ => ⟨rfl, rfl⟩
  | ⟨some n, e, p⟩ :: r, (n', d) :: r', ⟨_, _, k⟩ => by
    have := Kws.all (pos := pos) k
    constructor
    · show (true && (backToKw pos (keywordEach r c.en)).all (·.1.isSome)) = true
      rw [this.1]; rfl
    · show (false || (backToKw pos (keywordEach r c.en)).any (·.1.isNone)) = false
      rw [this.2]; rfl
theorem Kws.run {pos : Pos} : ∀ {kws : List Keyword} {kds : List (Str × D)}, Kws c ρ kws kds → ∀ {m : Str → Option Value} {news : Led} {s : Shared} {Q : List Value → Shared → Prop} {E : Value → Shared → Prop}, St c m news s → Loc ρ m news →
    (∀ ks news' s', news ⊆ news' → St c m news' s' → KAll news' (((backToKw pos (keywordEach kws c.en)).filterMap (·.1)).zip ks) kds → Q ks s') → wpAny c.M c.A (evalAll ((backToKw pos (keywordEach kws c.en)).map (·.2))) Q E s
  | [], [], _, _, _, _, _, _, S, _, hQ => kwAll_nil (hQ [] _ _ (List.Subset.refl _) S trivial)
  | ⟨some n, e, p⟩ :: r, (n', d) :: r', ⟨hn, h, k⟩, m, news, s, Q, E, S, hρ, hQ => by
    refine kwAll_cons (h m news s _ _ S hρ fun v n₁ s₁ hn₁ S₁ hv => ?_)
    refine Kws.run k S₁ (hρ.mono hn₁) fun ks n₂ s₂ hn₂ S₂ hks => ?_
    exact hQ (v :: ks) n₂ s₂ (fun _ hp => hn₂ (hn₁ hp)) S₂ ⟨hn, hv.mono hn₂, hks⟩

theorem cw {f : Value} {first : List Value} {pos : Pos} {es : List Expr} {kws : List Keyword} {ds : List D} {kds : List (Str × D)} {r : Option D} {Q : Value → Shared → Prop} {E : Value → Shared → Prop}
    (hf : Callable c news f first ds kds r) (ha : EVs c ρ es ds) (hkw : Kws c ρ kws kds) (S : St c m news s) (hρ : Loc ρ m news) (hQ : VPost c m news r Q E) :
    wpAny c.M c.A (callWith pos f first (backTo pos (starEach es c.en)) (backToKw pos (keywordEach kws c.en))) Q E s := by
  refine callWith_of (P := Keepable c f) (by rw [ha.plain, (Kws.all hkw).2]; rfl) (fun h q => q) ?_
  cases es with
  | nil =>
    cases ds with
    | cons => exact ha.elim
    | nil => exact evalArgs_kw2_nil (Kws.all hkw).1 (hkw.run S hρ fun ks n₁ s₁ hn₁ S₁ hks => ⟨hf.keep m n₁ s₁ hn₁ S₁, hf.go m n₁ s₁ [] _ Q E hn₁ S₁ trivial hks (hQ.sub hn₁)⟩)
  | cons e rest =>
    cases ds with
    | nil => exact ha.elim
    | cons d ds =>
      refine evalArgs_kw2 (Kws.all hkw).1 (ha.run S hρ fun vs n₁ s₁ hn₁ S₁ hvs => ?_) ha.2.1
      refine hkw.run S₁ (hρ.mono hn₁) fun ks n₂ s₂ hn₂ S₂ hks => ⟨hf.keep m n₂ s₂ (fun _ hp => hn₂ (hn₁ hp)) S₂, ?_⟩
      exact hf.go m n₂ s₂ vs _ Q E (fun _ hp => hn₂ (hn₁ hp)) S₂ (hvs.mono hn₂) hks (hQ.sub fun _ hp => hn₂ (hn₁ hp))
theorem near_own (O : c.Ok) (S : St c m news s) : Near c c.A := by
  obtain ⟨h₀, G⟩ := S.gr
  refine ⟨O.hh, ?_, ?_, ?_⟩
  · show c.A₀.frames.map (c.env :: ·) = _
    rw [G.B.stack]; rfl
  · show c.A₀.depth + 1 ≤ _; omega
  · show c.A₀.units + 3 ≤ _; omega
theorem call_fn (O : c.Ok) {rk : Nat} {cat : Bool} {f : Addr} {ds : List D} {kds : List (Str × D)} {r : Option D} {vs : List Value} {kvs : List (Str × Value)} {Q : Value → Shared → Prop} {E : Value → Shared → Prop}
    (h : FN c.w rk cat f ds kds r) (hr : rk < c.rk) (hc : cat = true → c.fix = false) (S : St c m news s) (hvs : DAll news vs ds) (hk : KAll news kvs kds) (hQ : VPost c m news r Q E) : wpAny c.M c.A (call (.ref f) vs kvs) Q E s := by
  refine wpAny_call (h c O rfl hr hc c.A (near_own O S) m news s vs kvs _ S hvs hk ?_)
  cases r with
  | some d => exact fun v n s' hn S' hv => hQ v n s' hn S' hv
  | none => exact fun x s' hx => hQ x s' hx
theorem keep_K {f : Value} (hk : keepIn (KF c.w) f = true) {m : Str → Option Value} {news : Led} {s : Shared} (S : St c m news s) : Keepable c f s.heap := by
  obtain ⟨h₀, G⟩ := S.gr
  exact keeps_K hk _ (G.X.keeps G.F.keep)
theorem keep_plain {f : Value} {h : Heap} (hf : ∀ a, f ≠ .ref a) : Keepable c f h := by
  refine ⟨.machine, .inr (.inl rfl), Looks.of_pure ?_⟩
  unfold keeperOf
  split
  · exact absurd rfl (hf _)
  · rfl
theorem callable_fn (O : c.Ok) {rk : Nat} {cat : Bool} {f : Addr} {ds : List D} {kds : List (Str × D)} {r : Option D} (h : FN c.w rk cat f ds kds r) (hr : rk < c.rk) (hc : cat = true → c.fix = false) (hk : keepIn (KF c.w) (.ref f) = true) :
    Callable c news (.ref f) [] ds kds r :=
  ⟨fun m n s' _ S => keep_K hk S, fun m n s' vs kvs Q E _ S hvs hkv hQ => call_fn O h hr hc S hvs hkv hQ⟩
/-- a call by a name, positional and by keywords -/
theorem ev_call {x : Str} {p pos : Pos} {es : List Expr} {kws : List Keyword} {f : Value} {ds : List D} {kds : List (Str × D)} {r : Option D} (hf : EV c ρ (.Name x p) (some (.val f))) (ha : EVs c ρ es ds) (hkw : Kws c ρ kws kds) (hc : ∀ news, Callable c news f [] ds kds r) :
    EV c ρ (.Call (.Name x p) es kws pos) r := by
  intro m news s Q E S hρ hQ
  refine wpAny_Call_Name_kw (hf m news s _ _ S hρ fun v n₁ s₁ hn₁ S₁ hv => ?_)
  cases hv
  exact cw (hc n₁) ha hkw S₁ (hρ.mono hn₁) (hQ.sub hn₁)
def GM (c : Cx) (d : D) (name : Str) (ds : List D) (kds : List (Str × D)) (r : Option D) : Prop :=
  ∀ m news s v (pl : Sem Bool) Q E, St c m news s → DIn news v d → (∀ f first news' s', news ⊆ news' → St c m news' s' → Callable c news' f first ds kds r → Q (f, first) s') → wpAny c.M c.A (getMethod v name pl) Q E s
theorem ev_method {o : Expr} {name : Str} {apos pos : Pos} {es : List Expr} {kws : List Keyword} {d : D} {ds : List D} {kds : List (Str × D)} {r : Option D} (ho : EV c ρ o (some d)) (hg : GM c d name ds kds r) (ha : EVs c ρ es ds) (hkw : Kws c ρ kws kds)
    {pl : Sem Bool}
    (he : eval (.Call (.Attribute o name apos) es kws pos) c.en = (do
      let ov ← eval o c.en
      standAt apos.atName
      let (f, first) ← holding [ov] (getMethod ov name pl)
      callWith pos f first (backTo pos (starEach es c.en)) (backToKw pos (keywordEach kws c.en))) := by rfl) :
    EV c ρ (.Call (.Attribute o name apos) es kws pos) r := by
  intro m news s Q E S hρ hQ
  refine methodCall_KW (ho m news s _ _ S hρ fun v n₁ s₁ hn₁ S₁ hv => ?_) he
  refine hg m n₁ s₁ v _ _ E S₁ hv fun f first n₂ s₂ hn₂ S₂ hC => ?_
  exact cw hC ha hkw S₂ (hρ.mono fun _ hp => hn₂ (hn₁ hp)) (hQ.sub fun _ hp => hn₂ (hn₁ hp))
end
end Mine
end
end
section
open PySem PySem.W PyProof.Rows PySem.Spec PySem.Calls
set_option maxRecDepth 100000
set_option linter.unusedVariables false
noncomputable section
namespace Mine
abbrev dn : D := .dat .none
abbrev db (b : Bool) : D := .dat (.bool b)
abbrev di (i : Int) : D := .dat (.int i)
abbrev ds (s : Str) : D := .dat (.str s)
abbrev dt (l : List Dat) : D := .dat (.tuple l)
abbrev dl (l : List Dat) : D := .dat (.list l)
/-- small enough for len, and no bytes -/
def topOk : Dat → Prop
  | .str s => s.length < 2 ^ 24
  | .tuple l => l.length < 2 ^ 24
  | .list l => l.length < 2 ^ 24
  | .bytes _ => False
  | _ => True
def truD : Dat → Bool
  | .none => false
  | .bool b => b
  | .int i => i != 0
  | .str s => s.length != 0
  | .tuple l => !l.isEmpty
  | .list l => !l.isEmpty
  | .bytes _ => false
section
variable {c : Cx} {m : Str → Option Value} {news news' : Led} {s s' : Shared} {ρ ρ' : Rho}
theorem St.toks2 {n : Nat} (S : St c m news s) : St c m news { heap := s.heap, gens := s.gens, drawn := s.drawn, toks := n, os := s.os } := ⟨S.os, S.ga, S.gr⟩
theorem units_ok (O : c.Ok) : c.A.units + 64 < cLine := by
  have := O.uni
  show c.A₀.units + 3 + 64 < 9900
  omega
theorem ob_dat {x : Dat} (hx : topOk x) : OB c truthy (.dat x) (some (truD x)) := by
  intro m news s v Q E S hv hQ
  obtain ⟨h₀, G⟩ := S.gr
  cases hv with
  | dat hv =>
    cases hv with
    | none => exact truthy_none (hQ.ok (List.Subset.refl _) S)
    | bool b => exact wpAny_truthy_bool (hQ.ok (List.Subset.refl _) S)
    | int i t => exact truthy_int (hQ.ok (List.Subset.refl _) S)
    | str u t =>
      have hx' : u.length < 2 ^ 24 := hx
      refine SBL.truthy (by omega) ?_
      have e : ((↑u.length : Int) != 0) = truD (.str u) := by
        show ((↑u.length : Int) != 0) = (u.length != 0)
        generalize u.length = k
        cases k <;> rfl
      rw [e]
      exact hQ.ok (List.Subset.refl _) S.toks2
    | bytes => exact hx.elim
    | tuple hm hr =>
      rename_i a vs n l
      have hl := hr.length
      have hx' : l.length < 2 ^ 24 := hx
      refine truthy_tuple (G.N.isTup hm) (by show ((vs.toArray.size : Nat) : Int) < 2 ^ 63; rw [List.size_toArray]; omega) ?_
      have e : (!vs.toArray.isEmpty) = truD (.tuple l) := by
        show (!vs.toArray.isEmpty) = !l.isEmpty
        cases vs <;> cases l <;> simp_all
      rw [e]
      exact hQ.ok (List.Subset.refl _) S.toks2
    | list hm hr =>
      rename_i a vs n l
      have hl := hr.length
      have hx' : l.length < 2 ^ 24 := hx
      refine wpAny_truthy_list (G.N.isList hm) (by show ((vs.toArray.size : Nat) : Int) < 2 ^ 63; rw [List.size_toArray]; omega) ?_
      have e : (!vs.toArray.isEmpty) = truD (.list l) := by
        show (!vs.toArray.isEmpty) = !l.isEmpty
        cases vs <;> cases l <;> simp_all
      rw [e]
      exact hQ.ok (List.Subset.refl _) S.toks2

/-! comparisons -/
open Classical in
theorem op_eq {x y : Dat} (O : c.Ok) (hx : kqdOk 9 x = true) (hy : kqdOk 9 y = true) : OP c (compareOp .Eq) (.dat x) (.dat y) (some (db (decide (x = y)))) := by
  intro m news s v u Q E S hv hu hQ
  obtain ⟨h₀, G⟩ := S.gr
  cases hv with | dat hv =>
  cases hu with | dat hu =>
  obtain ⟨as, ra⟩ := kqd_in G.N 9 hv hx
  obtain ⟨bs, rb⟩ := kqd_in G.N 9 hu hy
  have la := kqd_lay 9 x hx
  have lb := kqd_lay 9 y hy
  have e : PyData.eqv (kqdP x) (kqdP y) = decide (x = y) := by
    have q := kqd_eqv 9 x y 9 hx hy
    by_cases hq : x = y
    · rw [decide_eq_true hq]; exact q.mpr hq
    · rw [decide_eq_false hq]; exact Bool.eq_false_iff.mpr fun z => hq (q.mp z)
  refine eq_dataH ra rb ?_ ?_ (units_ok O) (by rw [e]; exact hQ.ok (List.Subset.refl _) S (.dat (.bool _)))
  · unfold SeqAt.shaped; rw [la.1, Bool.true_and]; exact decide_eq_true (Nat.le_trans la.2 (by decide))
  · unfold SeqAt.shaped; rw [lb.1, Bool.true_and]; exact decide_eq_true (Nat.le_trans lb.2 (by decide))
open Classical in
theorem op_ne {x y : Dat} (O : c.Ok) (hx : kqdOk 9 x = true) (hy : kqdOk 9 y = true) : OP c (compareOp .NotEq) (.dat x) (.dat y) (some (db (!decide (x = y)))) := by
  intro m news s v u Q E S hv hu hQ
  obtain ⟨h₀, G⟩ := S.gr
  cases hv with | dat hv =>
  cases hu with | dat hu =>
  obtain ⟨as, ra⟩ := kqd_in G.N 9 hv hx
  obtain ⟨bs, rb⟩ := kqd_in G.N 9 hu hy
  have la := kqd_lay 9 x hx
  have lb := kqd_lay 9 y hy
  have e : PyData.eqv (kqdP x) (kqdP y) = decide (x = y) := by
    have q := kqd_eqv 9 x y 9 hx hy
    by_cases hq : x = y
    · rw [decide_eq_true hq]; exact q.mpr hq
    · rw [decide_eq_false hq]; exact Bool.eq_false_iff.mpr fun z => hq (q.mp z)
  refine ne_dataH ra rb ?_ ?_ (units_ok O) (by rw [e]; exact hQ.ok (List.Subset.refl _) S (.dat (.bool _)))
  · unfold SeqAt.shaped; rw [la.1, Bool.true_and]; exact decide_eq_true (Nat.le_trans la.2 (by decide))
  · unfold SeqAt.shaped; rw [lb.1, Bool.true_and]; exact decide_eq_true (Nat.le_trans lb.2 (by decide))
theorem op_eq_str {x y : Str} : OP c (compareOp .Eq) (ds x) (ds y) (some (db (x == y))) := by
  intro m news s v u Q E S hv hu hQ
  cases hv with | dat hv => cases hv; cases hu with | dat hu => cases hu; exact eq_str (hQ.ok (List.Subset.refl _) S (.dat (.bool _)))
theorem op_ne_str {x y : Str} : OP c (compareOp .NotEq) (ds x) (ds y) (some (db (x != y))) := by
  intro m news s v u Q E S hv hu hQ
  cases hv with | dat hv => cases hv; cases hu with | dat hu => cases hu; exact ne_str (hQ.ok (List.Subset.refl _) S (.dat (.bool _)))
theorem op_notin_str {x y : Str} : OP c (compareOp .NotIn) (ds y) (ds x) (some (db (!!List.isEmpty (Builtin.Str.occurrences x y 0 (Str.length x) 1)))) := by
  intro m news s v u Q E S hv hu hQ
  cases hv with | dat hv => cases hv; cases hu with | dat hu => cases hu; exact notIn_str (hQ.ok (List.Subset.refl _) S (.dat (.bool _)))
def isN : D → Bool
  | .dat .none => true
  | .val v => v == .none
  | _ => false
theorem isN_val {v : Value} {d : D} (h : DIn news v d) : (v == .none) = isN d := by
  cases h with
  | dat h => cases h <;> rfl
  | inst => rfl
  | own => rfl
  | mat => rfl
  | val => rfl
  | any => rfl
theorem op_is_none {d : D} : OP c (compareOp .Is) d dn (some (db (isN d))) := by
  intro m news s v u Q E S hv hu hQ
  cases hu with | dat hu => cases hu; exact is_none (by rw [isN_val hv]; exact hQ.ok (List.Subset.refl _) S (.dat (.bool _)))
theorem op_isnot_none {d : D} : OP c (compareOp .IsNot) d dn (some (db (!isN d))) := by
  intro m news s v u Q E S hv hu hQ
  cases hu with | dat hu => cases hu; exact isNot_none (by rw [isN_val hv]; exact hQ.ok (List.Subset.refl _) S (.dat (.bool _)))

/-! strs -/
theorem op_add_str {x y : Str} (h : x.length + y.length ≤ 2 ^ 24) : OP c (binaryOp .Add) (ds x) (ds y) (some (ds (x ++ y))) := by
  intro m news s v u Q E S hv hu hQ
  cases hv with | dat hv => cases hv; cases hu with | dat hu =>
    cases hu
    exact add_str (fun t k => hQ.ok (List.Subset.refl _) S.toks2 (.dat (.str _ t))) (by rw [sizeLine_eq]; exact h)

theorem DAll.length : ∀ {vs : List Value} {ds : List D}, DAll news vs ds → vs.length = ds.length
  | [], [], _ => rfl
  | _ :: _, _ :: _, ⟨_, b⟩ => congrArg (· + 1) (DAll.length b)
  | [], _ :: _, h => h.elim
  | _ :: _, [], h => h.elim
theorem one_size : 1 ≤ sizeLine := by rw [sizeLine_eq]; decide
/-! raise ValueError(text) -/
theorem ve_hn : (Str.ofString "ValueError") ≠ "__name__" := by decide +kernel
theorem ve_hd : ((Str.ofString "ValueError") == ("__debug__" : Str)) = false := by decide +kernel
theorem ex_raise (O : c.Ok) {np cpos pos : Pos} {e : Expr} {d : D} (h : EV c ρ e (some d)) (hl : c.en.kindOf "ValueError" = some .globalImplicit) (hx : nsIn (KF c.w) mainGlobals "ValueError" = some none)
    (he : starEach [e] c.en = (false, eval e c.en) :: starEach [] c.en := by rfl) :
    EX1 c ρ (.Raise (some (.Call (.Name "ValueError" np) [e] [] cpos)) none pos) .err := by
  intro hc m news s Q E hE S hρ hQ
  have hs : EVs c ρ [e] [d] := ⟨h, he, trivial⟩
  rw [← Cx.en_eq hc]
  refine Raise_madeB PySem.F.excCall_ValueError PySem.F.excRaise_ValueError O.hh ?_ he rfl
  refine ev_B (v := .type "ValueError") O hx Boot.«ValueError» ve_hn hl ve_hd m news s _ E S hρ fun v n₁ s₁ hn₁ S₁ hv => ⟨by cases hv; rfl, ?_⟩
  refine hs.run S₁ (hρ.mono hn₁) fun vs n₂ s₂ hn₂ S₂ hvs => ⟨?_, fun h' x hx => ?_⟩
  · rw [hvs.length]; exact one_size
  · obtain ⟨h₀, G⟩ := S₂.gr
    exact hQ m _ _ (.inr ⟨x, vs, s₂.heap, h₀, rfl, S₂.os, S₂.ga, G.toGr0, fun _ hp => G.N _ (hn₂ (hn₁ hp)), Heap.MadeExc.of hx⟩)
end
end Mine
end
end
section
open PySem PySem.W PyProof.Rows PySem.Spec PySem.Calls
set_option maxRecDepth 100000
set_option linter.unusedVariables false
noncomputable section
namespace Mine
/-- a thing that can be called: a def, a class -/
def CN (w : World) (rk : Nat) (cat : Bool) (f : Value) (args : List D) (kw : List (Str × D)) (r : Option D) : Prop :=
  ∀ (c : Cx), c.Ok → c.w = w → rk < c.rk → (cat = true → c.fix = false) → ∀ m news s vs kvs Q E,
    St c m news s → DAll news vs args → KAll news kvs kw → VPost c m news r Q E → wpAny c.M c.A (call f vs kvs) Q E s
theorem FN.cn {w : World} {rk : Nat} {cat : Bool} {f : Addr} {args : List D} {kw : List (Str × D)} {r : Option D} (h : FN w rk cat f args kw r) : CN w rk cat (.ref f) args kw r := by
  rintro c O rfl hr hc m news s vs kvs Q E S hvs hk hQ
  exact call_fn O h hr hc S hvs hk hQ
section
variable {c : Cx} {m : Str → Option Value} {news news' : Led} {s s' : Shared} {ρ ρ' : Rho}
theorem datIn_handed {v : Value} {d : Dat} (h : DatIn news v d) : handedIn v = true := by cases h <;> rfl
theorem callable_cn (O : c.Ok) {rk : Nat} {cat : Bool} {f : Value} {ds : List D} {kds : List (Str × D)} {r : Option D} (h : CN c.w rk cat f ds kds r) (hr : rk < c.rk) (hc : cat = true → c.fix = false) (hk : keepIn (KF c.w) f = true) :
    Callable c news f [] ds kds r :=
  ⟨fun m n s' _ S => keep_K hk S, fun m n s' vs kvs Q E _ S hvs hkv hQ => h c O rfl hr hc m n s' vs kvs Q E S hvs hkv hQ⟩

/-! attributes -/
def GA (c : Cx) (d : D) (name : Str) (r : D) : Prop :=
  ∀ m news s v expr Q E, St c m news s → DIn news v d → (∀ v' n' s', news ⊆ n' → St c m n' s' → DIn n' v' r → Q v' s') → wpAny c.M c.A (getAttr v name expr) Q E s
theorem ev_attr {n attr : Str} {np pos : Pos} {d r : D} (h : EV c ρ (.Name n np) (some d)) (hg : GA c d attr r) : EV c ρ (.Attribute (.Name n np) attr pos) (some r) := by
  intro m news s Q E S hρ hQ
  refine Attribute_name (h m news s _ _ S hρ fun v n₁ s₁ hn₁ S₁ hv => ?_)
  exact hg m n₁ s₁ v true Q E S₁ hv fun v' n' s' hn S' hv' => hQ.ok (fun _ hp => hn (hn₁ hp)) S' hv'
theorem inst_at {h₀ h : Heap} (G : Gr c m news h₀ h) {x dx C : Addr} {es : List DictEntry} {n : Nat} (h1 : (x, instObj C dx) ∈ news) (h2 : (dx, dictOf es n) ∈ news) : W.InstAt h x (instObj C dx) C (some (dictOf es n)) := InstAt.of_news G.N h1 h2
theorem ga_inst {C : Addr} {fs : List (Str × Dat)} {no : List Str} {name : Str} {d : Dat} {attr : Option Value} (hd : fs.lookup name = some d) (h1 : plainGet (KF c.w) C name = true) (h2 : hasDictIn (KF c.w) C = true) (h3 : findIn (KF c.w) (.ref C) name = some attr) (h4 : noGet (KF c.w) attr = true) :
    GA c (.inst C fs no) name (.dat d) := by
  intro m news s v expr Q E S hv hQ
  obtain ⟨h₀, G⟩ := S.gr
  cases hv with
  | inst a b e e' =>
    obtain ⟨u, q, k⟩ := e _ _ hd
    exact get_own G.F G.X (inst_at G a b) h1 h2 h3 h4 q (datIn_handed k) (hQ _ news _ (List.Subset.refl _) S.toks2 (.dat k))
theorem ga_class {C : Addr} {fs : List (Str × Dat)} {no : List Str} (h1 : plainGet (KF c.w) C "__class__" = true) (h2 : hasDictIn (KF c.w) C = true) (h3 : findIn (KF c.w) (.ref C) "__class__" = some (some (.builtin "object.__class__")))
    (h4 : specialIn (KF c.w) (.builtin "object.__class__") "__get__" = some (some (.builtin "getset_descriptor.__get__"))) (h5 : takesIn (KF c.w) (.builtin "object.__class__") = some true) (h6 : mroIn (KF c.w) C (.type "object") = some true) :
    GA c (.inst C fs no) "__class__" (.val (.ref C)) := by
  intro m news s v expr Q E S hv hQ
  obtain ⟨h₀, G⟩ := S.gr
  cases hv with
  | inst a b e e' => exact get_class G.F G.X (inst_at G a b) h1 h2 h3 h4 h5 h6 (hQ _ news _ (List.Subset.refl _) S.toks2 .val)
theorem ga_cls {C : Addr} {name : Str} {a : Value} (h1 : typeIn (KF c.w) (.ref C) = some (.type "type")) (h2 : readsIn (KF c.w) C (.type "type") = true) (h3 : findCls (KF c.w) (.ref C) (.type "type") name = some (.val a)) (h4 : handedIn a = true) :
    GA c (.val (.ref C)) name (.val a) := by
  intro m news s v expr Q E S hv hQ
  obtain ⟨h₀, G⟩ := S.gr
  cases hv with
  | val => exact cls_val G.F G.X h1 h2 h3 h4 (hQ _ news _ (List.Subset.refl _) S.toks2 .val)

/-! methods -/
theorem gm_inst (O : c.Ok) {rk : Nat} {cat : Bool} {C f : Addr} {fs : List (Str × Dat)} {no : List Str} {name : Str} {ds : List D} {kds : List (Str × D)} {r : Option D} (h : FN c.w rk cat f (.inst C fs no :: ds) kds r) (hr : rk < c.rk) (hc : cat = true → c.fix = false)
    (hn : name ∈ no) (h1 : plainGet (KF c.w) C name = true) (h2 : findIn (KF c.w) (.ref C) name = some (some (.ref f))) (h3 : isFn (KF c.w) (.ref f) = true) (h4 : keepIn (KF c.w) (.ref f) = true) : GM c (.inst C fs no) name ds kds r := by
  intro m news s v pl Q E S hv hQ
  obtain ⟨h₀, G⟩ := S.gr
  cases id hv with
  | inst a b e e' =>
    exact method_inst G.F G.X (inst_at G a b) h1 h2 h3 (e' _ hn) (hQ _ _ news _ (List.Subset.refl _) S
      ⟨fun m n s' _ S => keep_K h4 S, fun m n s' vs kvs Q E hn S hvs hkv hQ => call_fn O h hr hc S ⟨hv.mono hn, hvs⟩ hkv hQ⟩)
theorem meth_callable (O : c.Ok) {rk : Nat} {cat : Bool} {C f q : Addr} {ds : List D} {kds : List (Str × D)} {r : Option D} (h : FN c.w rk cat f (.val (.ref C) :: ds) kds r) (hr : rk < c.rk) (hc : cat = true → c.fix = false) (hf : fnIn (KF c.w) f = true)
    (hq : (q, methodObj (.ref f) (.ref C)) ∈ news) : Callable c news (.ref q) [] ds kds r := by
  refine ⟨fun m n s' hn S => ?_, fun m n s' vs kvs Q E hn S hvs hkv hQ => ?_⟩
  · obtain ⟨h₀, G⟩ := S.gr
    exact keeps_M hf _ (methP G.N (hn hq) (G.X.keeps G.F.keep))
  · obtain ⟨h₀, G⟩ := S.gr
    refine call_meth G.N (hn hq) (h c O rfl hr hc c.A (near_own O S) m n s' _ kvs _ S ⟨.val, hvs⟩ hkv ?_)
    cases r with
    | some d => exact fun v n s' hn S' hv => hQ v n s' hn S' hv
    | none => exact fun x s' hx => hQ x s' hx
theorem gm_inst_cm (O : c.Ok) {rk : Nat} {cat : Bool} {C f p : Addr} {fs : List (Str × Dat)} {no : List Str} {name : Str} {ds : List D} {kds : List (Str × D)} {r : Option D} {rest : List Value} (h : FN c.w rk cat f (.val (.ref C) :: ds) kds r) (hr : rk < c.rk) (hc : cat = true → c.fix = false)
    (hn : name ∈ no) (h1 : plainGet (KF c.w) C name = true) (h2 : hasDictIn (KF c.w) C = true) (h3 : findIn (KF c.w) (.ref C) name = some (some (.ref p))) (h4 : typeIn (KF c.w) (.ref p) = some (.type "classmethod"))
    (h5 : specialIn (KF c.w) (.ref p) "__get__" = some (some (.builtin "classmethod.__get__"))) (h6 : takesIn (KF c.w) (.ref p) = some false) (h7 : copiedNames.contains name = false) (h8 : recIn (KF c.w) p "classmethod" = some (.ref f :: rest)) (h9 : fnIn (KF c.w) f = true) :
    GM c (.inst C fs no) name ds kds r := by
  intro m news s v pl Q E S hv hQ
  obtain ⟨h₀, G⟩ := S.gr
  cases id hv with
  | inst a b e e' =>
    refine kmu_cm G.F G.X G.N (inst_at G a b) h1 h2 h3 h4 h5 h6 h7 (e' _ hn) h8 fun q h' F N _ => ?_
    exact hQ _ _ _ _ (List.subset_cons_self _ _) (S.heap ⟨h₀, G.at F N⟩) (meth_callable O h hr hc h9 (List.mem_cons_self ..))
theorem gm_cls_cm (O : c.Ok) {rk : Nat} {cat : Bool} {C f p : Addr} {name : Str} {ds : List D} {kds : List (Str × D)} {r : Option D} {rest : List Value} (h : FN c.w rk cat f (.val (.ref C) :: ds) kds r) (hr : rk < c.rk) (hc : cat = true → c.fix = false)
    (h1 : specialIn (KF c.w) (.ref C) "__getattribute__" = some (some (.builtin "type.__getattribute__"))) (h2 : typeIn (KF c.w) (.ref C) = some (.type "type")) (h3 : readsIn (KF c.w) C (.type "type") = true)
    (h4 : findCls (KF c.w) (.ref C) (.type "type") name = some (.get (.builtin "classmethod.__get__") (.ref p) .none (.ref C))) (h8 : recIn (KF c.w) p "classmethod" = some (.ref f :: rest)) (h9 : fnIn (KF c.w) f = true) :
    GM c (.val (.ref C)) name ds kds r := by
  intro m news s v pl Q E S hv hQ
  obtain ⟨h₀, G⟩ := S.gr
  cases hv with
  | val =>
    refine method_of_cls G.F G.X h1 (cls_cm G.F G.X G.N h2 h3 h4 h8 fun q h' F N _ => ?_)
    exact hQ _ _ _ _ (List.subset_cons_self _ _) (S.heap ⟨h₀, G.at F N⟩) (meth_callable O h hr hc h9 (List.mem_cons_self ..))

/-! comparing objects by a def -/
theorem op_eq_inst (O : c.Ok) {rk : Nat} {C C' f : Addr} {fs fs' : List (Str × Dat)} {no no' : List Str} {b : Bool} (h : FN c.w rk false f [.inst C fs no, .inst C' fs' no'] [] (some (db b))) (hr : rk < c.rk) (hC : C' = C)
    (h1 : notFirst (KF c.w) C (.ref C) = true) (h2 : findIn (KF c.w) (.ref C) "__eq__" = some (some (.ref f))) (h3 : isFn (KF c.w) (.ref f) = true) : OP c (compareOp .Eq) (.inst C fs no) (.inst C' fs' no') (some (db b)) := by
  subst hC
  intro m news s v u Q E S hv hu hQ
  obtain ⟨h₀, G⟩ := S.gr
  cases id hv with
  | inst a₁ b₁ _ _ =>
    cases id hu with
    | inst a₂ b₂ _ _ =>
      refine cmp_ofEq (cmp_K (Nat.lt_of_le_of_lt (Nat.le_add_right _ 64) (units_ok O)) G.F G.X (inst_at G a₁ b₁) (inst_at G a₂ b₂).type h1 h2 h3 ?_)
      refine call_fn O h hr (fun q => by cases q) S ⟨hv, hu, trivial⟩ trivial fun v n s' hn S' hv' => ?_
      cases hv' with
      | dat hv' => cases hv'; exact hQ.ok hn S' (.dat (.bool _))
end
end Mine
end
end
section
open PySem PySem.W PyProof.Rows PySem.Spec PySem.Calls
set_option maxRecDepth 100000
set_option linter.unusedVariables false
noncomputable section
namespace Mine
/-- the body of an __init__: it fills self -/
def EXI (c : Cx) (ρ : Rho) (C : Addr) (ss : List Stmt) (r : Option D) : Prop :=
  ∀ m news s x dx Q E, PassesOwn c.M c.A c.env E → St c m ((x, instObj C dx) :: (dx, dictOf [] 0) :: news) s → Loc ρ m news → m "self" = some (.ref x) → (∀ p ∈ news, p.1 < dx) → dx < x →
    (match r with
      | some d => ∀ m' news' s', news ⊆ news' → St c m' news' s' → DIn news' (.ref x) d → Q .next s'
      | none => ∀ m' x s', Flown c m' news x s' ∨ MadeHere c m' news x s' → E x s') → wpAny c.M c.A (execs ss c.env) Q E s
theorem units_tc (args : Args) : Code.cUnits (.builtin "type.__call__" args) = 1 := by kernel_rfl
section
variable {w : World} {rk : Nat} {cat : Bool} {C fI : Addr} {args : List D} {kw : List (Str × D)} {r : Option D}
theorem cls_of {name qual : Str} {params : Arguments} {body : List Stmt} {scope : Scope} {dV kV doc pm cdv ct oc : Value} {an od : Option Addr} {osl : Array (Option Value)} {ρ₀ : Rho}
    (hm : makesIn (KF w) C = true) (hi : findIn (KF w) (.ref C) "__init__" = some (some (.ref fI))) (hf : isFn (KF w) (.ref fI) = true)
    (ho : (KF w).lookup fI = some ⟨oc, od, .func (fnOf name qual params body scope dV kV doc pm an cdv ct), osl⟩) (hcd : codeIn (KF w) cdv qual = true)
    (hbind : ∀ (news : Led) x vs kvs (s : Shared), (KF w).In s.heap → DAll news vs args → KAll news kvs kw → ∃ binds, BindsTo s (fnOf name qual params body scope dV kV doc pm an cdv ct) ⟨.ref x :: vs, kvs⟩ binds ∧ (∀ y ∈ binds, scope.names.lookup y.1 = some .local) ∧ Loc ρ₀ (fun y => binds.reverse.lookup y) news ∧ binds.reverse.lookup ("self" : Str) = some (.ref x))
    (hbody : ∀ mean mg mb base A₀ outer L g₀ os, Cx.Ok ⟨w, mean, mg, mb, base, A₀, outer, qual, scope, L, fI, cdv, g₀, !cat, rk, os, none⟩ → EXI ⟨w, mean, mg, mb, base, A₀, outer, qual, scope, L, fI, cdv, g₀, !cat, rk, os, none⟩ ρ₀ C body r)
    (herr : r = none → cat = false)
    (hk : scope.kind = .function) (hco : scope.isCoroutine = false) (hgen : scope.isGenerator = false) (hcell : ∀ x ∈ scope.names, x.2 ≠ .cell) : CN w rk cat (.ref C) args kw r := by
  rintro c O rfl hrk hcat m news s vs kvs Q E S hvs hkv hQ
  obtain ⟨h₀, G⟩ := S.gr
  refine call_cls G.F G.X G.N hm hi hf fun x dx h' F N lt lt' => ?_
  obtain ⟨binds, b1, b2, b3, b4⟩ := hbind news x vs kvs { s with heap := h' } (G.X.keeps F.keep) hvs hkv
  have d1 := O.dep
  have u1 := O.uni
  generalize hA : Around.under c.A (Code.builtin "type.__call__" { pos := Value.ref C :: vs, kw := kvs }) = A
  have nd : A.depth = c.A₀.depth + 2 := by rw [← hA]; rfl
  have nh : A.handled = none := by rw [← hA]; exact O.hh
  have nu : A.units ≤ c.A₀.units + 20 := by
    rw [← hA]
    show c.A₀.units + 3 + Code.cUnits _ ≤ _
    rw [units_tc]; omega
  have nf : A.frames = some (c.env :: c.outer) := by
    rw [← hA]
    show c.A₀.frames.map (c.env :: ·) = _
    rw [G.B.stack]; rfl
  refine code_defT G.B F G.X N G.T O.XB O.TB G.D G.tb O.bt nf ho hcd (by rw [nd]; show c.A₀.depth + 2 < 1000; omega) b1 b2 (fun g L' h₁ FG F' N' B' X' T' D' tb' => ?_) O.kind hco hgen hk hcell
  have O' : Cx.Ok ⟨c.w, c.mean, c.mg, c.mb, c.base, A, c.env :: c.outer, qual, scope, L', fI, cdv, g, !cat, rk, c.os, none⟩ := ⟨hk, O.XB, O.TB, nh, by show A.depth + 8 * rk ≤ 950; omega, by show A.units + 100 * rk ≤ 9000; omega, hk, rfl, rfl, O.bt⟩
  have S' : St ⟨c.w, c.mean, c.mg, c.mb, c.base, A, c.env :: c.outer, qual, scope, L', fI, cdv, g, !cat, rk, c.os, none⟩ (fun y => binds.reverse.lookup y) ((x, instObj C dx) :: (dx, dictOf [] 0) :: news) { s with heap := h₁, toks := s.toks + binds.length } :=
    ⟨S.os, S.ga, g, ⟨⟨fun _ => rfl, Trn.refl, B', F', X', T', D', tb'⟩, N', .none rfl⟩⟩
  refine hbody c.mean c.mg c.mb c.base A (c.env :: c.outer) L' g c.os O' _ news _ x dx _ _ PassesOwn.leaving S' b3 b4 lt lt' ?_
  cases r with
  | some d =>
    intro m' news' s' hn S' hv
    obtain ⟨g', G'⟩ := S'.gr
    cases cat with
    | false =>
      obtain rfl : g' = g := G'.fixd rfl
      exact leaveT_l G'.F G'.N fun F N => ⟨rfl, hQ (.ref x) news' s' hn ⟨S'.os, S'.ga, h₀, G.at F N hn⟩ hv⟩
    | true =>
      exact leaveT_r G'.F G'.N G'.turn fun h₀' tn F N B X T D tb => ⟨rfl, hQ (.ref x) news' s' hn ⟨S'.os, S'.ga, h₀', ⟨⟨fun q => (by rw [hcat rfl] at q; cases q), G.turn.trans tn, B, F, X, T, D, tb⟩, N, G.K.mono hn⟩⟩ hv⟩
  | none =>
    obtain rfl := herr rfl
    rintro m' x s' (⟨e, t, vs', G', h₀', rfl, os', ga', gr', R', U'⟩ | ⟨e, vs', h, h₀', rfl, os', ga', gr', nw', M'⟩)
    · obtain rfl : h₀' = g := gr'.fixd rfl
      exact leave_onS gr'.B gr'.F R' U' fun h' R'' _ U'' => hQ _ _ ⟨e, t, vs', h₀', h₀, rfl, os', ga', G.toGr0.at FG, R'', U''⟩
    · obtain rfl : h₀' = g := gr'.fixd rfl
      exact leave_raiseS gr'.B M' gr'.F nw' (fun h' t R'' _ U'' => hQ _ _ ⟨e, t, vs', h₀', h₀, rfl, os', ga', G.toGr0.at FG, R'', U''⟩) hk
/-- a class without an __init__ of its own -/
theorem cls_plain (hm : makesIn (KF w) C = true) (hi : findIn (KF w) (.ref C) "__init__" = some (some (.builtin "object.__init__"))) : CN w rk false (.ref C) [] [] (some .any) := by
  rintro c O rfl hrk hcat m news s vs kvs Q E S hvs hkv hQ
  obtain ⟨h₀, G⟩ := S.gr
  match vs, hvs, kvs, hkv with
  | [], _, [], _ =>
    refine call_cls0 G.F G.X G.N hm hi fun x dx h' F N _ _ => ?_
    exact hQ.ok (fun _ hp => List.mem_cons_of_mem _ (List.mem_cons_of_mem _ hp)) (S.heap ⟨h₀, G.at F N⟩) .any
end
end Mine
end
end
section
open PySem PySem.W PyProof.Rows PySem.Spec PySem.Calls
set_option maxRecDepth 100000
set_option linter.unusedVariables false
noncomputable section
namespace Mine
theorem repr_under_str {prog : Program} {w : World} {A : Around} {E : Value → Shared → Prop} {s : Shared} {b : Nat} {x : Str} {t : Tok} {Q : Value → Shared → Prop} (h : Q (.str (reprText x) s.toks) { s with toks := s.toks + 1 }) (hx : (reprText x).length ≤ sizeLine) :
    wpAny (model prog w) A (pyReprObjUnder b (.str x t)) Q E s := by
  unfold pyReprObjUnder pyReprObjBy
  simp only [cRoomFor, show [Value.str x t].any Value.onHeap = false from rfl, Bool.false_eq_true, if_false, pure_bind]
  refine wpAny_bind (wpAny_specialOf (name := Str.ofString "__repr__") (typeIs_str s x t) F.slot_str_repr.lookup ?_)
  refine wpAny_bind (wpAny_callSpecialIfBoundBy?_slotG (name := Str.ofString "__repr__") (typeIs_str s x t) F.slot_str_repr.toG ?_)
  have e : reprUnder? (.builtin "str.__repr__") = none := by kernel_rfl
  simp only [e]
  exact call_gives F.slot_str_repr (typeIs_str s x t) F.entry_str_repr (F.args_str_repr_1 _) (gives_str_repr x t) ⟨hx, wpAny_bind (wpAny_isInstance (T := "str") (b := true) rfl isSubtype_str_str (wpAny_pure h))⟩
section
variable {M : Model} {A : Around} {E : Value → Shared → Prop} {s : Shared} {l : List Nat} {p : List Value} {r : List Nat}
  {f : Nat → List Value × Builtin.Str.Writer × List Nat → Sem (ForInStep (List Value × Builtin.Str.Writer × List Nat))} {Q : List Value × Builtin.Str.Writer × List Nat → Shared → Prop}
  {w : Builtin.Str.Writer} {T x y : PySem.Str} {N K : Nat} {o : Option Value}
theorem int_len {n : Int} (h0 : 0 ≤ n) (h1 : n < 10 ^ 500) : (PySem.Str.ofString (toString n)).length ≤ 500 := toString_length_le h0 (by decide) h1
theorem after_intB {c : Builtin.Str.Percent} {n : Int} {d : List Nat} (g : KPc.Good w T N) (h1 : c.alt = false) (h2 : c.type = 100 ∨ c.type = 105 ∨ c.type = 117) (h3 : c.prec = none) (hn : 0 ≤ n) (hm : n < 10 ^ 500)
    (hd : d = (PySem.Str.ofString (toString ((n.natAbs : Nat) : Int))).cps.toList) (ho : o = none) (h : ∀ w', KPc.Good w' (T ++ PySem.Str.ofString (toString n)) (N + 500) → wpAny M A (forIn l (p, w', r) f) Q E s) :
    wpAny M A (forIn l (p, w.add ⟨(Builtin.Str.percentInt c (decide (n < 0)) d).toArray⟩ o, r) f) Q E s := by
  have en : ((n.natAbs : Nat) : Int) = n := Int.natAbs_of_nonneg hn
  rw [KPc.int_text c h1 h2 h3 hn, hd, en]
  exact KPc.after_str g (int_len hn hm) (KPc.obj_none ho) h
theorem after_intB0 {c : Builtin.Str.Percent} {n : Int} {d : List Nat} (g : KPc.Good w PySem.Str.empty N) (h1 : c.alt = false) (h2 : c.type = 100 ∨ c.type = 105 ∨ c.type = 117) (h3 : c.prec = none) (hn : 0 ≤ n) (hm : n < 10 ^ 500)
    (hd : d = (PySem.Str.ofString (toString ((n.natAbs : Nat) : Int))).cps.toList) (ho : o = none) (h : ∀ w', KPc.Good w' (PySem.Str.ofString (toString n)) (N + 500) → wpAny M A (forIn l (p, w', r) f) Q E s) :
    wpAny M A (forIn l (p, w.add ⟨(Builtin.Str.percentInt c (decide (n < 0)) d).toArray⟩ o, r) f) Q E s :=
  after_intB g h1 h2 h3 hn hm hd ho fun w' g' => h w' (by rw [KPc.empty_app] at g'; exact g')
end
local macro_rules | `(tactic| kpc_turns) => `(tactic| (refine KPc.turn ?_; kpc_check; (repeat kpc_if); first
  | (refine wpAny_pure ?_; kpc_piece; kpc_turns)
  | (refine wpAny_bind ?_; refine wpAny_holding ?_; (repeat kpc_if); refine wpAny_bind ?_; (repeat kpc_if); refine repr_under_str ?_ (by rw [sizeLine_eq]; omega); refine wpAny_bind (wpAny_of_eq (a := some _) rfl ?_); refine wpAny_pure ?_; refine wpAny_pure ?_; (first | refine KPc.after_str0 (K := 100000) (by kpc_g) (by with_reducible assumption) (by kpc_obj) ?_ | refine KPc.after_str (K := 100000) (by kpc_g) (by with_reducible assumption) (by kpc_obj) ?_); intro _ _; kpc_turns)
  | kpc_close))
theorem pm_empty_text {z : PySem.Str} {t u : Tok} (hz : (reprText z).length ≤ 100000) : Meets (Builtin.«str.__mod__» ⟨[.str ⟨(Str.ofString "Invalid empty version string: %r").cps⟩ t, .str z u], []⟩) (fun _ R s => ∀ t' k, R (.ok (.ret (.str (Str.ofString "Invalid empty version string: " ++ reprText z) t'))) { s with toks := k }) := by
  show Meets (Builtin.«str.__mod__» ⟨[.str ⟨#[73, 110, 118, 97, 108, 105, 100, 32, 101, 109, 112, 116, 121, 32, 118, 101, 114, 115, 105, 111, 110, 32, 115, 116, 114, 105, 110, 103, 58, 32, 37, 114]⟩ t, .str z u], []⟩) _
  kpc_run_s

theorem pm_text {z : PySem.Str} {t u : Tok} (hz : (reprText z).length ≤ 100000) : Meets (Builtin.«str.__mod__» ⟨[.str ⟨(Str.ofString "Invalid version string: %r").cps⟩ t, .str z u], []⟩) (fun _ R s => ∀ t' k, R (.ok (.ret (.str (Str.ofString "Invalid version string: " ++ reprText z) t'))) { s with toks := k }) := by
  show Meets (Builtin.«str.__mod__» ⟨[.str ⟨#[73, 110, 118, 97, 108, 105, 100, 32, 118, 101, 114, 115, 105, 111, 110, 32, 115, 116, 114, 105, 110, 103, 58, 32, 37, 114]⟩ t, .str z u], []⟩) _
  kpc_run_s

theorem pm_major {z : PySem.Str} {t u : Tok} (hz : (reprText z).length ≤ 100000) : Meets (Builtin.«str.__mod__» ⟨[.str ⟨(Str.ofString "Invalid leading zero in major: %r").cps⟩ t, .str z u], []⟩) (fun _ R s => ∀ t' k, R (.ok (.ret (.str (Str.ofString "Invalid leading zero in major: " ++ reprText z) t'))) { s with toks := k }) := by
  show Meets (Builtin.«str.__mod__» ⟨[.str ⟨#[73, 110, 118, 97, 108, 105, 100, 32, 108, 101, 97, 100, 105, 110, 103, 32, 122, 101, 114, 111, 32, 105, 110, 32, 109, 97, 106, 111, 114, 58, 32, 37, 114]⟩ t, .str z u], []⟩) _
  kpc_run_s

theorem pm_minor {z : PySem.Str} {t u : Tok} (hz : (reprText z).length ≤ 100000) : Meets (Builtin.«str.__mod__» ⟨[.str ⟨(Str.ofString "Invalid leading zero in minor: %r").cps⟩ t, .str z u], []⟩) (fun _ R s => ∀ t' k, R (.ok (.ret (.str (Str.ofString "Invalid leading zero in minor: " ++ reprText z) t'))) { s with toks := k }) := by
  show Meets (Builtin.«str.__mod__» ⟨[.str ⟨#[73, 110, 118, 97, 108, 105, 100, 32, 108, 101, 97, 100, 105, 110, 103, 32, 122, 101, 114, 111, 32, 105, 110, 32, 109, 105, 110, 111, 114, 58, 32, 37, 114]⟩ t, .str z u], []⟩) _
  kpc_run_s

theorem pm_patch {z : PySem.Str} {t u : Tok} (hz : (reprText z).length ≤ 100000) : Meets (Builtin.«str.__mod__» ⟨[.str ⟨(Str.ofString "Invalid leading zero in patch: %r").cps⟩ t, .str z u], []⟩) (fun _ R s => ∀ t' k, R (.ok (.ret (.str (Str.ofString "Invalid leading zero in patch: " ++ reprText z) t'))) { s with toks := k }) := by
  show Meets (Builtin.«str.__mod__» ⟨[.str ⟨#[73, 110, 118, 97, 108, 105, 100, 32, 108, 101, 97, 100, 105, 110, 103, 32, 122, 101, 114, 111, 32, 105, 110, 32, 112, 97, 116, 99, 104, 58, 32, 37, 114]⟩ t, .str z u], []⟩) _
  kpc_run_s

theorem pm_ident {z : PySem.Str} {t u : Tok} (hz : (reprText z).length ≤ 100000) : Meets (Builtin.«str.__mod__» ⟨[.str ⟨(Str.ofString "Invalid leading zero in identifier %r").cps⟩ t, .str z u], []⟩) (fun _ R s => ∀ t' k, R (.ok (.ret (.str (Str.ofString "Invalid leading zero in identifier " ++ reprText z) t'))) { s with toks := k }) := by
  show Meets (Builtin.«str.__mod__» ⟨[.str ⟨#[73, 110, 118, 97, 108, 105, 100, 32, 108, 101, 97, 100, 105, 110, 103, 32, 122, 101, 114, 111, 32, 105, 110, 32, 105, 100, 101, 110, 116, 105, 102, 105, 101, 114, 32, 37, 114]⟩ t, .str z u], []⟩) _
  kpc_run_s


local macro_rules | `(tactic| kpc_turns) => `(tactic| (refine KPc.turn ?_; kpc_check; (repeat kpc_if); first
  | (refine wpAny_pure ?_; kpc_piece; kpc_turns)
  | (refine wpAny_bind ?_; refine wpAny_holding ?_; (repeat kpc_if); kpc_conv; refine wpAny_pure ?_; refine wpAny_pure ?_; (first | refine after_intB0 (by kpc_g) rfl (by kpc_kind) rfl (by with_reducible assumption) (by with_reducible assumption) rfl (by kpc_none) ?_ | refine after_intB (by kpc_g) rfl (by kpc_kind) rfl (by with_reducible assumption) (by with_reducible assumption) rfl (by kpc_none) ?_); intro _ _; kpc_turns)
  | kpc_close))
theorem pm_d {n : Int} {t u : Tok} (h0 : 0 ≤ n) (h1 : n < 10 ^ 500) (h2 : n.natAbs.log2 < 1920) (h3 : ((n.natAbs : Nat) : Int).natAbs.log2 < 1920) : Meets (Builtin.«str.__mod__» ⟨[.str ⟨#[37, 100]⟩ t, .int n u], []⟩) (fun _ R s => ∀ t' k, R (.ok (.ret (.str (Str.ofString (toString n)) t'))) { s with toks := k }) := by
  kpc_run
local macro_rules | `(tactic| kpt_turns) => `(tactic| (refine KPc.turn ?_; kpc_check; (repeat kpc_if); first
  | (refine wpAny_pure ?_; kpt_piece; kpt_turns)
  | (refine wpAny_bind ?_; refine wpAny_holding ?_; (repeat kpc_if); kpt_conv; refine wpAny_pure ?_; refine wpAny_pure ?_; (first
    | refine after_intB0 (by kpc_g) rfl (by kpc_kind) rfl (by with_reducible assumption) (by with_reducible assumption) rfl (by kpc_none) ?_ | refine after_intB (by kpc_g) rfl (by kpc_kind) rfl (by with_reducible assumption) (by with_reducible assumption) rfl (by kpc_none) ?_
    | refine KPc.after_str0 (K := 100000) (by kpc_g) (by with_reducible assumption) (by kpc_obj) ?_ | refine KPc.after_str (K := 100000) (by kpc_g) (by with_reducible assumption) (by kpc_obj) ?_); intro _ _; kpt_turns)
  | kpc_close))
local macro_rules | `(tactic| kpt_hd) => `(tactic| with_reducible assumption)
theorem pm_sd {n : Int} {v : PySem.Str} {t tv tn : Tok} {b : Addr} (hv : v.length ≤ 100000) (h0 : 0 ≤ n) (h1 : n < 10 ^ 500) (h2 : n.natAbs.log2 < 1920) (h3 : ((n.natAbs : Nat) : Int).natAbs.log2 < 1920) :
    Meets (Builtin.«str.__mod__» ⟨[.str ⟨#[37, 115, 46, 37, 100]⟩ t, .ref b], []⟩) (fun _ R s => IsTup s.heap b #[.str v tv, .int n tn] ∧ ∀ t' k, R (.ok (.ret (.str (v ++ Str.ofString "." ++ Str.ofString (toString n)) t'))) { s with toks := k }) := by
  kpt_run
end Mine
end
end
section
open PySem PySem.W PyProof.Rows PySem.Spec PySem.Calls
set_option maxRecDepth 100000
set_option linter.unusedVariables false
noncomputable section
namespace Mine
section
variable {c : Cx} {m : Str → Option Value} {news news' : Led} {s s' : Shared} {ρ ρ' : Rho}
theorem DAll.dats : ∀ {vs : List Value} {l : List Dat}, DAll news vs (l.map .dat) → DatAll news vs l
  | [], [], _ => .nil
  | v :: vs, d :: l, ⟨h, k⟩ => by
    cases h with
    | dat h => exact .cons h (DAll.dats k)
  | [], _ :: _, h => h.elim
  | _ :: _, [], h => h.elim
theorem DatAll.strs : ∀ {vs : List Value} {l : List Str}, DatAll news vs (l.map .str) → StrsAre vs l
  | [], [], _ => .nil
  | v :: vs, d :: l, h => by
    cases h with
    | cons h k => cases h; exact .cons _ _ (DatAll.strs k)
  | [], _ :: _, h => by cases h
  | _ :: _, [], h => by cases h
theorem StrsAre.dats : ∀ {vs : List Value} {l : List Str}, StrsAre vs l → DatAll news vs (l.map .str)
  | _, _, .nil => .nil
  | _, _, .cons y t h => .cons (.str y t) (StrsAre.dats h)
theorem lenOf {vs : List Value} {l : List Dat} (h : DatAll news vs l) : vs.length = l.length := DatAll.length h

/-! displays -/
theorem ev_tuple {es : List Expr} {k : Nat} {pos : Pos} {l : List Dat} (h : EVs c ρ es (l.map .dat)) (hl : l.length ≤ 1000) : EV c ρ (.Tuple es k pos) (some (dt l)) := by
  intro m news s Q E S hρ hQ
  refine Tuple_ (h.run S hρ fun vs n₁ s₁ hn₁ S₁ hvs => ?_)
  obtain ⟨h₀, G⟩ := S₁.gr
  have hd := hvs.dats
  refine newTuple_N G.F G.N (fun h' F N => ?_) (by rw [lenOf hd, sizeLine_eq]; omega)
  exact hQ.ok (fun _ hp => List.mem_cons_of_mem _ (hn₁ hp)) (s' := { s₁ with heap := h' }) (S₁.heap ⟨h₀, G.at F N⟩) (.dat (.tuple (List.mem_cons_self ..) (hd.mono fun _ hp => List.mem_cons_of_mem _ hp)))
theorem ev_tuple_any {es : List Expr} {k : Nat} {pos : Pos} {l : List D} (h : EVs c ρ es l) (hl : l.length ≤ 1000) : EV c ρ (.Tuple es k pos) (some .any) := by
  intro m news s Q E S hρ hQ
  refine Tuple_ (h.run S hρ fun vs n₁ s₁ hn₁ S₁ hvs => ?_)
  obtain ⟨h₀, G⟩ := S₁.gr
  refine newTuple_N G.F G.N (fun h' F N => ?_) (by rw [hvs.length, sizeLine_eq]; omega)
  exact hQ.ok (fun _ hp => List.mem_cons_of_mem _ (hn₁ hp)) (s' := { s₁ with heap := h' }) (S₁.heap ⟨h₀, G.at F N⟩) .any
theorem ev_list {es : List Expr} {pos : Pos} {l : List Dat} (h : EVs c ρ es (l.map .dat)) (hl : l.length ≤ 1000) : EV c ρ (.List es pos) (some (dl l)) := by
  intro m news s Q E S hρ hQ
  refine List_ (h.run S hρ fun vs n₁ s₁ hn₁ S₁ hvs => ?_)
  obtain ⟨h₀, G⟩ := S₁.gr
  have hd := hvs.dats
  refine newList_N G.F G.N (fun h' F N => ?_) (by rw [lenOf hd, sizeLine_eq]; omega)
  exact hQ.ok (fun _ hp => List.mem_cons_of_mem _ (hn₁ hp)) (s' := { s₁ with heap := h' }) (S₁.heap ⟨h₀, G.at F N⟩) (.dat (.list (List.mem_cons_self ..) (hd.mono fun _ hp => List.mem_cons_of_mem _ hp)))
theorem op_add_list {x y : List Dat} (h : x.length + y.length ≤ 1000) : OP c (binaryOp .Add) (dl x) (dl y) (some (dl (x ++ y))) := by
  intro m news s v u Q E S hv hu hQ
  obtain ⟨h₀, G⟩ := S.gr
  cases hv with | dat hv => cases hv with | list m1 r1 => cases hu with | dat hu => cases hu with | list m2 r2 =>
    have l1 := lenOf r1
    have l2 := lenOf r2
    refine add_arrays G.F G.N (G.N.isList m1) (G.N.isList m2) (fun h' F N => ?_) (by rw [List.size_toArray, List.size_toArray, sizeLine_eq]; omega)
    exact hQ.ok (List.subset_cons_self _ _) (s' := { s with heap := h' }) (S.heap ⟨h₀, G.at F N⟩) (.dat (.list (List.mem_cons_self ..) ((r1.append r2).mono fun _ hp => List.mem_cons_of_mem _ hp)))

/-! subscripts -/
def SUB (c : Cx) (value slice : Expr) (d₁ d₂ : D) (r : D) : Prop :=
  ∀ m news s v i Q E, St c m news s → DIn news v d₁ → DIn news i d₂ → (∀ v' n' s', news ⊆ n' → St c m n' s' → DIn n' v' r → Q v' s') → wpAny c.M c.A (subscriptTail value slice v i) Q E s
theorem ev_sub {value slice : Expr} {pos : Pos} {d₁ d₂ r : D} (h1 : EV c ρ value (some d₁)) (h2 : EV c ρ slice (some d₂)) (hs : SUB c value slice d₁ d₂ r) : EV c ρ (.Subscript value slice pos) (some r) := by
  intro m news s Q E S hρ hQ
  refine Subscript_ (h1 m news s _ _ S hρ fun v n₁ s₁ hn₁ S₁ hv => h2 m n₁ s₁ _ _ S₁ (hρ.mono hn₁) fun i n₂ s₂ hn₂ S₂ hi => ?_)
  exact hs m n₂ s₂ v i Q E S₂ (hv.mono hn₂) hi fun v' n' s' hn S' hv' => hQ.ok (fun _ hp => hn (hn₂ (hn₁ hp))) S' hv'
theorem sub_str {value slice : Expr} {x : Str} {i : Int} (h1 : fitsSsize i = true) (h2 : -(x.length : Int) ≤ i) (h3 : i < x.length)
    (hs : ∀ (v i : Value), subscripted slice false v i = operate [v, i] (getItem v i)) (ht : ∀ o r : Value, letTemporaryGo value o r = pure ()) : SUB c value slice (ds x) (di i) (ds (Txt.item x i)) := by
  intro m news s v u Q E S hv hu hQ
  cases hv with | dat hv => cases hv; cases hu with | dat hu =>
    cases hu
    exact item_str h1 h2 h3 (fun _ => hQ _ news _ (List.Subset.refl _) S.toks2 (.dat (.str _ _))) (hs _ _) (fun r => ht _ r)
theorem DatAll.at : ∀ {vs : List Value} {l : List Dat} {j : Nat} {d : Dat}, DatAll news vs l → l[j]? = some d → ∃ v, vs[j]? = some v ∧ DatIn news v d
  | _, _, 0, _, .cons h _, e => by cases e; exact ⟨_, rfl, h⟩
  | _, _, j + 1, _, .cons _ k, e => by
    obtain ⟨v, a, b⟩ := DatAll.at k (j := j) (by simpa using e)
    exact ⟨v, by simpa using a, b⟩
theorem sub_tup {value slice : Expr} {l : List Dat} {i : Int} {j : Nat} {d : Dat} (h1 : -2 ^ 63 ≤ i) (h2 : i < 2 ^ 63) (hj : seqIndex? i l.length = some j) (hd : l[j]? = some d)
    (hs : ∀ (v i : Value), subscripted slice false v i = operate [v, i] (getItem v i)) : SUB c value slice (dt l) (di i) (.dat d) := by
  intro m news s v u Q E S hv hu hQ
  obtain ⟨h₀, G⟩ := S.gr
  cases hv with | dat hv => cases hv with | tuple m1 r1 => cases hu with | dat hu =>
    cases hu
    obtain ⟨v, a, b⟩ := DatAll.at r1 hd
    exact item_tupleT (G.N.isTup m1) h1 h2 (by rw [lenOf r1]; exact hj) a (hQ _ news _ (List.Subset.refl _) S (.dat b)) (hs _ _)
theorem sub_list {value slice : Expr} {l : List Dat} {i : Int} {d : Dat} (h1 : 0 ≤ i) (h2 : i < 2 ^ 63) (hd : l[i.toNat]? = some d)
    (hs : ∀ (v i : Value), subscripted slice false v i = operate [v, i] (getItem v i)) (ht : ∀ o r : Value, letTemporaryGo value o r = pure ()) : SUB c value slice (dl l) (di i) (.dat d) := by
  intro m news s v u Q E S hv hu hQ
  obtain ⟨h₀, G⟩ := S.gr
  cases hv with | dat hv => cases hv with | list m1 r1 => cases hu with | dat hu =>
    cases hu
    obtain ⟨v, a, b⟩ := DatAll.at r1 hd
    exact item_list (G.N.isList m1) h1 h2 (by rw [List.getElem?_toArray]; exact a) (hQ _ news _ (List.Subset.refl _) S (.dat b)) (hs _ _) (fun r => ht _ r)
/-- text[a:], text[:b], text[a:b] -/
def PV (c : Cx) (ρ : Rho) (e : Option Expr) (o : Option Int) : Prop := match e, o with
  | none, none => True
  | some e, some i => EV c ρ e (some (di i))
  | _, _ => False
theorem PV.run {e : Option Expr} {o : Option Int} (h : PV c ρ e o) {m : Str → Option Value} {news : Led} {s : Shared} {Q : Value → Shared → Prop} {E : Value → Shared → Prop} (S : St c m news s) (hρ : Loc ρ m news)
    (hQ : ∀ u news' s', news ⊆ news' → St c m news' s' → Q (partValue (o.map fun i => (i, u))) s') : wpAny c.M c.A (evalPart e c.en) Q E s := by
  cases e with
  | none =>
    cases o with
    | none => exact wpAny_pure (hQ 0 news s (List.Subset.refl _) S)
    | some => exact h.elim
  | some e =>
    cases o with
    | none => exact h.elim
    | some i =>
      refine h m news s _ _ S hρ fun v n₁ s₁ hn₁ S₁ hv => ?_
      cases hv with | dat hv => cases hv; exact hQ _ n₁ s₁ hn₁ S₁
theorem ev_slice {value : Expr} {lo hi : Option Expr} {p pos : Pos} {x : Str} {a b : Option Int} (h1 : EV c ρ value (some (ds x))) (ha : PV c ρ lo a) (hb : PV c ρ hi b) (hx : x.length ≤ 1000000)
    (hs : ∀ (v i : Value), subscripted (.Slice lo hi none p) false v i = operate [i, v] (getItem v i)) (ht : ∀ o r : Value, letTemporaryGo value o r = pure ()) :
    EV c ρ (.Subscript value (.Slice lo hi none p) pos) (some (ds (Txt.slice x a b))) := by
  intro m news s Q E S hρ hQ
  refine Subscript_ (h1 m news s _ _ S hρ fun v n₁ s₁ hn₁ S₁ hv => ?_)
  cases hv with | dat hv => cases hv with | str _ t =>
  refine wpAny_Slice (ha.run S₁ (hρ.mono hn₁) fun ua n₂ s₂ hn₂ S₂ => hb.run S₂ (hρ.mono fun _ hp => hn₂ (hn₁ hp)) fun ub n₃ s₃ hn₃ S₃ => ?_)
  refine wpAny_pure ?_
  obtain ⟨h₀, G⟩ := S₃.gr
  have fin : ∀ h' t' k, Fr h₀ c.L h' (c.fm m) → News h₀ c.L h' n₃ → Q (.str (Txt.slice x a b) t') { s₃ with heap := h', toks := k } := fun h' t' k F N =>
    hQ.ok (fun _ hp => hn₃ (hn₂ (hn₁ hp))) (S₃.heap ⟨h₀, G.at F N⟩) (.dat (.str _ t'))
  have sz : x.length ≤ sizeLine := by rw [sizeLine_eq]; omega
  cases a <;> cases b
  · exact slice_strN_nn G.F G.N fin (hs _ _) (fun r => ht _ r) sz
  · exact slice_strN_ns G.F G.N fin (hs _ _) (fun r => ht _ r) sz
  · exact slice_strN_sn G.F G.N fin (hs _ _) (fun r => ht _ r) sz
  · exact slice_strN_ss G.F G.N fin (hs _ _) (fun r => ht _ r) sz
end
end Mine
end
end
section
open PySem PySem.W PyProof.Rows PySem.Spec PySem.Calls
set_option maxRecDepth 100000
set_option linter.unusedVariables false
noncomputable section
namespace Mine
section
variable {c : Cx} {m : Str → Option Value} {news news' : Led} {s s' : Shared} {ρ ρ' : Rho}
/-- a builtin that is called with positional values alone -/
def CB (c : Cx) (f : Value) (first : List Value) (ds : List D) (r : Option D) : Prop :=
  ∀ m news s vs Q E, St c m news s → DAll news vs ds → VPost c m news r Q E → wpAny c.M c.A (call f (first ++ vs)) Q E s
theorem CB.callable {f : Value} {first : List Value} {ds : List D} {r : Option D} (h : CB c f first ds r) (hf : ∀ a, f ≠ .ref a) : Callable c news f first ds [] r :=
  ⟨fun _ _ _ _ _ => keep_plain hf, fun m n s' vs kvs Q E _ S hvs hkv hQ => by
    cases kvs with
    | nil => exact h m n s' vs Q E S hvs hQ
    | cons a b => obtain ⟨_, _⟩ := a; exact hkv.elim⟩
theorem d1 {ds : D} {P : List Value → Prop} (h : ∀ v, DIn news v ds → P [v]) : ∀ vs, DAll news vs [ds] → P vs
  | [v], ⟨a, _⟩ => h v a
  | _ :: _ :: _, ⟨_, b⟩ => b.elim
theorem d2 {ds ds' : D} {P : List Value → Prop} (h : ∀ v u, DIn news v ds → DIn news u ds' → P [v, u]) : ∀ vs, DAll news vs [ds, ds'] → P vs
  | [v, u], ⟨a, b, _⟩ => h v u a b
  | _ :: _ :: _ :: _, ⟨_, _, b⟩ => b.elim
  | [_], ⟨_, b⟩ => b.elim
theorem d0 {P : List Value → Prop} (h : P []) : ∀ vs, DAll news vs [] → P vs
  | [], _ => h
theorem cb_int {x : Str} {n : Int} (h : PySem.intText? x = some n) (hx : x.length ≤ 640) : CB c (.type "int") [] [ds x] (some (di n)) := by
  intro m news s vs Q E S hvs hQ
  refine d1 (P := fun vs => wpAny c.M c.A (call _ vs) Q E s) (fun v hv => ?_) vs hvs
  cases hv with | dat hv => cases hv; exact KIN.call_text h hx (hQ.ok (List.Subset.refl _) S.toks2 (.dat (.int _ _)))
theorem cb_int_int {n : Int} : CB c (.type "int") [] [di n] (some (di n)) := by
  intro m news s vs Q E S hvs hQ
  refine d1 (P := fun vs => wpAny c.M c.A (call _ vs) Q E s) (fun v hv => ?_) vs hvs
  cases hv with | dat hv => cases hv; exact call_int_int (hQ.ok (List.Subset.refl _) S (.dat (.int _ _)))
theorem cb_str_int (O : c.Ok) {n : Int} (hn : n.natAbs < 10 ^ 4300) : CB c (.type "str") [] [di n] (some (ds (Str.ofString (toString n)))) := by
  intro m news s vs Q E S hvs hQ
  refine d1 (P := fun vs => wpAny c.M c.A (call _ vs) Q E s) (fun v hv => ?_) vs hvs
  obtain ⟨h₀, G⟩ := S.gr
  cases hv with | dat hv =>
    cases hv
    exact str_of_int_or O.hh (Heap.NoDigits.keeps G.T.nodigits G.F.keep) (fun _ => hQ.ok (List.Subset.refl _) S.toks2 (.dat (.str _ _))) (fun q => absurd hn (Nat.not_lt.mpr q))
theorem cb_tuple_list {l : List Dat} (hl : l.length ≤ 1000) : CB c (.type "tuple") [] [dl l] (some (dt l)) := by
  intro m news s vs Q E S hvs hQ
  refine d1 (P := fun vs => wpAny c.M c.A (call _ vs) Q E s) (fun v hv => ?_) vs hvs
  obtain ⟨h₀, G⟩ := S.gr
  cases hv with | dat hv => cases hv with | list m1 r1 =>
    refine kde_tupleOf G.F G.N (G.N.isList m1) (by rw [List.size_toArray, lenOf r1]; omega) rfl fun D h' F N _ => ?_
    exact hQ.ok (List.subset_cons_self _ _) (s' := { s with heap := h' }) (S.heap ⟨h₀, G.at F N⟩) (.dat (.tuple (List.mem_cons_self ..) (r1.mono fun _ hp => List.mem_cons_of_mem _ hp)))
theorem cb_tuple_tuple {l : List Dat} : CB c (.type "tuple") [] [dt l] (some (dt l)) := by
  intro m news s vs Q E S hvs hQ
  refine d1 (P := fun vs => wpAny c.M c.A (call _ vs) Q E s) (fun v hv => ?_) vs hvs
  obtain ⟨h₀, G⟩ := S.gr
  cases id hv with | dat hv' => cases hv' with | tuple m1 r1 => exact call_tuple_tup (G.N.isTup m1) (hQ.ok (List.Subset.refl _) S hv)
theorem cb_len_str {x : Str} (hx : x.length ≤ 1000000) : CB c (.builtin "len") [] [ds x] (some (di x.length)) := by
  intro m news s vs Q E S hvs hQ
  refine d1 (P := fun vs => wpAny c.M c.A (call _ vs) Q E s) (fun v hv => ?_) vs hvs
  cases hv with | dat hv => cases hv; exact P.len_str (by omega) (hQ.ok (List.Subset.refl _) S.toks2 (.dat (.int _ _)))
theorem cb_len_list {l : List Dat} (hl : l.length ≤ 1000000) : CB c (.builtin "len") [] [dl l] (some (di l.length)) := by
  intro m news s vs Q E S hvs hQ
  refine d1 (P := fun vs => wpAny c.M c.A (call _ vs) Q E s) (fun v hv => ?_) vs hvs
  obtain ⟨h₀, G⟩ := S.gr
  cases hv with | dat hv => cases hv with | list m1 r1 =>
    have e := lenOf r1
    rw [← e] at hQ
    exact PyProof.Rows.len_list (G.N.isList m1) (by rw [List.size_toArray]; omega) (hQ.ok (List.Subset.refl _) S.toks2 (.dat (.int _ _)))
theorem cb_isi {C : Addr} {fs : List (Str × Dat)} {no : List Str} (h : isIn (KF c.w) (.ref C) C = true) : CB c (.builtin "isinstance") [] [.inst C fs no, .val (.ref C)] (some (db true)) := by
  intro m news s vs Q E S hvs hQ
  refine d2 (P := fun vs => wpAny c.M c.A (call _ vs) Q E s) (fun v u hv hu => ?_) vs hvs
  obtain ⟨h₀, G⟩ := S.gr
  cases hv with | inst a b _ _ =>
    cases hu with | val => exact isi_call (G.X.keeps G.F.keep) (fun M => (inst_at G a b).type) h (fun q => by cases q) (hQ.ok (List.Subset.refl _) S (.dat (.bool _)))

/-! methods of str -/
theorem gm_of {d : D} {name id : String} {ds' : List D} {r : Option D} (hT : ∀ m news s v, St c m news s → DIn news v d → ∀ (pl : Sem Bool) (Q : Value × List Value → Shared → Prop) E, Q (.builtin id, [v]) s → wpAny c.M c.A (getMethod v name pl) Q E s)
    (h : ∀ m news s v vs Q E, St c m news s → DIn news v d → DAll news vs ds' → VPost c m news r Q E → wpAny c.M c.A (call (.builtin id) (v :: vs)) Q E s) : GM c d name ds' [] r := by
  intro m news s v pl Q E S hv hQ
  refine hT m news s v S hv pl Q E (hQ _ _ news s (List.Subset.refl _) S ⟨fun _ _ _ _ _ => keep_plain (fun _ q => by cases q), fun m n s' vs kvs Q E hn S hvs hkv hQ => ?_⟩)
  cases kvs with
  | nil => exact h m n s' v vs Q E S (hv.mono hn) hvs hQ
  | cons a b => obtain ⟨_, _⟩ := a; exact hkv.elim
theorem gm_isdigit {x : Str} : GM c (ds x) "isdigit" [] [] (some (db (Txt.isdigit x))) := by
  refine gm_of (id := "str.isdigit") (fun m news s v S hv pl Q E h => by cases hv with | dat hv => cases hv; exact PySem.GM.isdigit h) fun m news s v vs Q E S hv hvs hQ => ?_
  refine d0 (P := fun vs => wpAny c.M c.A (call (.builtin "str.isdigit") (v :: vs)) Q E s) ?_ vs hvs
  cases hv with | dat hv => cases hv; exact SC.isdigit (hQ.ok (List.Subset.refl _) S (.dat (.bool _)))
theorem gm_find {x y : Str} : GM c (ds x) "find" [ds y] [] (some (di (Txt.find x y))) := by
  refine gm_of (id := "str.find") (fun m news s v S hv pl Q E h => by cases hv with | dat hv => cases hv; exact PySem.GM.find h) fun m news s v vs Q E S hv hvs hQ => ?_
  refine d1 (P := fun vs => wpAny c.M c.A (call (.builtin "str.find") (v :: vs)) Q E s) (fun u hu => ?_) vs hvs
  cases hv with | dat hv => cases hv; cases hu with | dat hu => cases hu; exact SC.find (hQ.ok (List.Subset.refl _) S.toks2 (.dat (.int _ _)))
theorem gm_split {x y : Str} (hy : (y.length == 0) = false) (hx : x.length ≤ 1000000) : GM c (ds x) "split" [ds y] [] (some (dl ((Txt.split x y).map .str))) := by
  refine gm_of (id := "str.split") (fun m news s v S hv pl Q E h => by cases hv with | dat hv => cases hv; exact PySem.GM.split h) fun m news s v vs Q E S hv hvs hQ => ?_
  refine d1 (P := fun vs => wpAny c.M c.A (call (.builtin "str.split") (v :: vs)) Q E s) (fun u hu => ?_) vs hvs
  obtain ⟨h₀, G⟩ := S.gr
  cases hv with | dat hv => cases hv; cases hu with | dat hu =>
    cases hu
    refine KSpl.split1 G.F G.N hy (fun D l h' k e hl F N _ => ?_) (by rw [sizeLine_eq]; omega)
    rw [← e] at hQ
    exact hQ.ok (List.subset_cons_self _ _) (S.heap ⟨h₀, G.at F N⟩) (.dat (.list (List.mem_cons_self ..) (StrsAre.dats hl)))
theorem gm_join_tuple {x : Str} {l : List Str} (h : (l.map (·.length)).sum + l.length * x.length ≤ 16777216) : GM c (ds x) "join" [dt (l.map .str)] [] (some (ds (Txt.join x l))) := by
  refine gm_of (id := "str.join") (fun m news s v S hv pl Q E h => by cases hv with | dat hv => cases hv; exact PySem.GM.join h) fun m news s v vs Q E S hv hvs hQ => ?_
  refine d1 (P := fun vs => wpAny c.M c.A (call (.builtin "str.join") (v :: vs)) Q E s) (fun u hu => ?_) vs hvs
  obtain ⟨h₀, G⟩ := S.gr
  cases hv with | dat hv => cases hv; cases hu with | dat hu => cases hu with | tuple m1 r1 =>
    exact join_tuple (G.N.isTup m1) (DatAll.strs r1) h (fun t k => hQ.ok (List.Subset.refl _) S.toks2 (.dat (.str _ _)))
theorem gm_join_list {x : Str} {l : List Str} (h : (l.map (·.length)).sum + l.length * x.length ≤ 16777216) : GM c (ds x) "join" [dl (l.map .str)] [] (some (ds (Txt.join x l))) := by
  refine gm_of (id := "str.join") (fun m news s v S hv pl Q E h => by cases hv with | dat hv => cases hv; exact PySem.GM.join h) fun m news s v vs Q E S hv hvs hQ => ?_
  refine d1 (P := fun vs => wpAny c.M c.A (call (.builtin "str.join") (v :: vs)) Q E s) (fun u hu => ?_) vs hvs
  obtain ⟨h₀, G⟩ := S.gr
  cases hv with | dat hv => cases hv; cases hu with | dat hu => cases hu with | list m1 r1 =>
    exact join_list (G.N.isList m1) (DatAll.strs r1) h (fun t k => hQ.ok (List.Subset.refl _) S.toks2 (.dat (.str _ _)))

/-! more of two operands -/
theorem op_is_bool {a b : Bool} : OP c (compareOp .Is) (db a) (db b) (some (db (a == b))) := by
  intro m news s v u Q E S hv hu hQ
  cases hv with | dat hv => cases hv; cases hu with | dat hu => cases hu; exact is_bool (hQ.ok (List.Subset.refl _) S (.dat (.bool _)))
theorem op_isnot_bool {a b : Bool} : OP c (compareOp .IsNot) (db a) (db b) (some (db (a != b))) := by
  intro m news s v u Q E S hv hu hQ
  cases hv with | dat hv => cases hv; cases hu with | dat hu =>
    cases hu
    refine wpAny_of_eq (a := .bool (a != b)) ?_ (hQ.ok (List.Subset.refl _) S (.dat (.bool _)))
    cases a <;> cases b <;> rfl
theorem op_xor {a b : Bool} : OP c (binaryOp .BitXor) (db a) (db b) (some (db (a != b))) := by
  intro m news s v u Q E S hv hu hQ
  cases hv with | dat hv => cases hv; cases hu with | dat hu => cases hu; exact xor_bool (hQ.ok (List.Subset.refl _) S (.dat (.bool _)))
theorem op_gt {a b : Int} : OP c (compareOp .Gt) (di a) (di b) (some (db (decide (b < a)))) := by
  intro m news s v u Q E S hv hu hQ
  cases hv with | dat hv => cases hv; cases hu with | dat hu => cases hu; exact gt_int (hQ.ok (List.Subset.refl _) S (.dat (.bool _)))
theorem op_ge {a b : Int} : OP c (compareOp .GtE) (di a) (di b) (some (db (decide (b ≤ a)))) := by
  intro m news s v u Q E S hv hu hQ
  cases hv with | dat hv => cases hv; cases hu with | dat hu => cases hu; exact ge_int (hQ.ok (List.Subset.refl _) S (.dat (.bool _)))
theorem op_add_int {a b : Int} : OP c (binaryOp .Add) (di a) (di b) (some (di (a + b))) := by
  intro m news s v u Q E S hv hu hQ
  cases hv with | dat hv => cases hv; cases hu with | dat hu => cases hu; exact add_int (hQ.ok (List.Subset.refl _) S.toks2 (.dat (.int _ _)))
theorem op_mod_d {F : Str} {n : Int} (hF : F = ⟨#[37, 100]⟩) (h0 : 0 ≤ n) (h1 : n < 10 ^ 500) : OP c (binaryOp .Mod) (ds F) (di n) (some (ds (Str.ofString (toString n)))) := by
  intro m news s v u Q E S hv hu hQ
  have hl : n.natAbs.log2 < 1920 := shown (N := 2 ^ 1920) (by omega) (by omega) (Int.le_refl _)
  cases hv with | dat hv => cases hv; cases hu with | dat hu => cases hu; exact KPc.mod_lit hF hl (pm_d h0 h1) (fun t k => hQ.ok (List.Subset.refl _) S.toks2 (.dat (.str _ _)))
theorem op_mod_sd {F v : Str} {n : Int} (hF : F = ⟨#[37, 115, 46, 37, 100]⟩) (hv : v.length ≤ 100000) (h0 : 0 ≤ n) (h1 : n < 10 ^ 500) : OP c (binaryOp .Mod) (ds F) (dt [.str v, .int n]) (some (ds (v ++ Str.ofString "." ++ Str.ofString (toString n)))) := by
  intro m news s a u Q E S ha hu hQ
  have hl : n.natAbs.log2 < 1920 := shown (N := 2 ^ 1920) (by omega) (by omega) (Int.le_refl _)
  obtain ⟨h₀, G⟩ := S.gr
  cases ha with | dat ha => cases ha; cases hu with | dat hu => cases hu with | tuple m1 r1 =>
    cases r1 with | cons a1 r2 => cases a1; cases r2 with | cons a2 r3 => cases a2; cases r3; exact KPt.mod_tuple G.N m1 hF (pm_sd hv h0 h1 hl hl) (fun t k => hQ.ok (List.Subset.refl _) S.toks2 (.dat (.str _ _)))
theorem op_mod_r {Fm F' T z : Str} (hF : Fm = F') (hz : z.length ≤ 100000) (hm : ∀ {z : Str} {t u : Tok}, (reprText z).length ≤ 100000 → Meets (Builtin.«str.__mod__» ⟨[.str F' t, .str z u], []⟩) (fun _ R s => ∀ t' k, R (.ok (.ret (.str (T ++ reprText z) t'))) { s with toks := k }))
    (hr : (reprText z).length ≤ 100000) : OP c (binaryOp .Mod) (ds Fm) (ds z) (some (ds (T ++ reprText z))) := by
  intro m news s v u Q E S hv hu hQ
  subst hF
  cases hv with | dat hv => cases hv; cases hu with | dat hu =>
    cases hu
    exact binaryOp_meets (T := "str") (op := .Mod) (typeIs_str s _ _) (typeIs_str s _ _) F.fills_str_mod F.slot_str_mod F.entry_str_mod (F.args_str_mod_2 _ _) (hm hr) (fun t' k => ⟨(fun e => nomatch e), hQ.ok (List.Subset.refl _) S.toks2 (.dat (.str _ _))⟩)
end
end Mine
end
end
section
open PySem PySem.W PyProof.Rows PySem.Spec PySem.Calls
set_option maxRecDepth 100000
set_option linter.unusedVariables false
noncomputable section
namespace Mine
def drop (I : Addr) (news : Led) : Led := news.filter (fun p => decide (p.1 ≠ I))
theorem mem_drop {I : Addr} {news : Led} {p : Addr × Obj} : p ∈ drop I news ↔ p ∈ news ∧ p.1 ≠ I := by simp [drop]
/-- nothing in data, in an object of an own class or in a match looks like this -/
def odd (o : Obj) : Prop := o.cls ≠ .type "tuple" ∧ o.cls ≠ .type "list" ∧ o.cls ≠ .type "re.Match" ∧ ∀ a, o.cls ≠ .ref a
theorem keep_drop {I a : Addr} {news : Led} {o : Obj} (h : (a, o) ∈ news) (ho : ∀ o', (I, o') ∈ news → odd o') (q : ¬ odd o) : (a, o) ∈ drop I news :=
  mem_drop.mpr ⟨h, fun (e : a = I) => q (ho o (e ▸ h))⟩
mutual
theorem datIn_drop {I : Addr} {news : Led} (ho : ∀ o', (I, o') ∈ news → odd o') : ∀ {v : Value} {d : Dat}, DatIn news v d → DatIn (drop I news) v d
  | _, _, .none => .none
  | _, _, .bool b => .bool b
  | _, _, .int i t => .int i t
  | _, _, .str x t => .str x t
  | _, _, .bytes b t => .bytes b t
  | _, _, .tuple h r => .tuple (keep_drop h ho (fun q => q.1 rfl)) (datAll_drop ho r)
  | _, _, .list h r => .list (keep_drop h ho (fun q => q.2.1 rfl)) (datAll_drop ho r)
theorem datAll_drop {I : Addr} {news : Led} (ho : ∀ o', (I, o') ∈ news → odd o') : ∀ {vs : List Value} {ds : List Dat}, DatAll news vs ds → DatAll (drop I news) vs ds
  | _, _, .nil => .nil
  | _, _, .cons h r => .cons (datIn_drop ho h) (datAll_drop ho r)
end
theorem dIn_drop {I : Addr} {news : Led} (ho : ∀ o', (I, o') ∈ news → odd o') (hd : ∀ o', (I, o') ∈ news → o'.cls ≠ .type "dict") {v : Value} {d : D} (h : DIn news v d) : DIn (drop I news) v d := by
  cases h with
  | dat h => exact .dat (datIn_drop ho h)
  | inst a b e e' =>
    refine .inst (keep_drop a ho fun q => q.2.2.2 _ rfl) (mem_drop.mpr ⟨b, fun q => ?_⟩) (fun k d hk => ?_) e'
    · subst q; exact hd _ b rfl
    · obtain ⟨v, x, y⟩ := e k d hk; exact ⟨v, x, datIn_drop ho y⟩
  | own a b e e' =>
    refine .own (keep_drop a ho fun q => q.2.2.2 _ rfl) (mem_drop.mpr ⟨b, fun q => ?_⟩) (fun k d hk => ?_) e'
    · subst q; exact hd _ b rfl
    · obtain ⟨v, x, y⟩ := e k d hk; exact ⟨v, x, datIn_drop ho y⟩
  | mat a b => exact .mat (keep_drop a ho fun q => q.2.2.1 rfl) (keep_drop b ho fun q => q.1 rfl)
  | val => exact .val
  | any => exact .any
theorem loc_drop {I : Addr} {news : Led} (ho : ∀ o', (I, o') ∈ news → odd o') (hd : ∀ o', (I, o') ∈ news → o'.cls ≠ .type "dict") {ρ : Rho} {m : Str → Option Value} (h : Loc ρ m news) : Loc ρ m (drop I news) :=
  fun y d e => let ⟨v, a, b⟩ := h y d e; ⟨v, a, dIn_drop ho hd b⟩
/-- the turns of a loop -/
def Turns (c : Cx) (x : Str) (body : List Stmt) : Rho → List Dat → Out → Prop
  | ρ, [], o => o = .next ρ
  | ρ, d :: l, o => (∃ ρ', EX c (upd ρ x (.dat d)) body (.next ρ') ∧ Turns c x body ρ' l o) ∨ (EX c (upd ρ x (.dat d)) body o ∧ ∀ ρ', o ≠ .next ρ')
section
variable {c : Cx} {m : Str → Option Value} {news news' : Led} {s s' : Shared} {ρ ρ' : Rho}
theorem Gr.fresh_g {h₀ h : Heap} (G : Gr c m news h₀ h) {I : Addr} (q : h₀.get? I = none) : c.g₀.get? I = none := by
  cases e : c.g₀.get? I with
  | none => rfl
  | some o =>
    by_cases n : I = 392
    · subst n
      obtain ⟨ps, a, _⟩ := G.tb
      rw [q] at a; cases a
    · obtain ⟨sl, z⟩ := G.turn.up e n; rw [q] at z; cases z
theorem loop_go (O : c.Ok) (hcm : c.cmp = none) {x : Str} {px : Pos} {body : List Stmt} {I ax : Addr} {n : Nat} {Pn : Nat → Value → Prop} {Sn : Nat → Heap → Prop} (W : Walks P c.w c.A I [I, ax] [I] n Pn Sn) (hx : c.env.kindOf x = some .local)
    {l : List Dat} {o : Out} {base : Led} {Q : Flow → Shared → Prop} {E : Value → Shared → Prop} (hE : PassesOwn c.M c.A c.env E)
    (hn : n = l.length) (hI : ∀ p ∈ base, p.1 ≠ I) (hP : ∀ i v, Pn i v → ∃ d, l[i]? = some d ∧ DatIn base v d) (hit : ∀ i h, Sn i h → ∃ o, h.get? I = some o ∧ odd o ∧ o.cls ≠ .type "dict") (hL : I ≠ c.L)
    (hax : ∃ oa, (ax, oa) ∈ base) (hg : c.g₀.get? I = none)
    (T : Turns c x body ρ l o) (S : St c m base s) (hρ : Loc ρ m base) (hS : Sn 0 s.heap) (hQ : XPost c base o Q E) :
    codeAny c.M c.A (.forLoop (.Name x px) (.ref I) body [] c.env) (fun r s' => match r with | .ok f => Q f s' | .error e => cameBackBy c.M c.A c.env E e s') s := by
  refine codeAny_forLoop (fun k s' => ∃ i m' news' ρ', k = n + 1 - i ∧ i ≤ n ∧ St c m' news' s' ∧ base ⊆ news' ∧ (∀ p ∈ news', p.1 ≠ I) ∧ Loc ρ' m' news' ∧ Sn i s'.heap ∧ Turns c x body ρ' (l.drop i) o) ?_ (n + 1)
    ⟨0, m, base, ρ, rfl, Nat.zero_le _, S, List.Subset.refl _, hI, hρ, hS, T⟩
  rintro k s' ⟨i, m', news', ρ', rfl, hi, S', hb, hI', hρ', hS', T'⟩
  obtain ⟨h₀, G⟩ := S'.gr
  have hne : I ≠ c.L ∧ ax ≠ c.L := ⟨hL, by obtain ⟨oa, ha⟩ := hax; exact (G.N _ (hb ha)).2.1⟩
  have fe : ∀ m, c.fm m = m := fun m => Cx.fm_eq hcm
  have GF : Fr h₀ c.L s'.heap m' := by have := G.F; rwa [fe] at this
  have hI0 : h₀.get? I = none := G.turn.none_ _ hg
  have old : ∀ b o, h₀.get? b = some o → b ∉ [I] := fun b o e hb => by
    obtain rfl : b = I := List.mem_singleton.mp hb
    rw [hI0] at e; cases e
  have next : ∀ h₁ : Heap, (∀ b o, b ∉ [I] → s'.heap.get? b = some o → h₁.get? b = some o) → Fr h₀ c.L h₁ m' ∧ News h₀ c.L h₁ news' := fun h₁ hk₁ =>
    ⟨⟨GF.ns.at' fun o e => hk₁ _ o (fun q => hne.1 (List.mem_singleton.mp q).symm) e, fun b o e => hk₁ b o (old b o e) (GF.keep b o e), GF.above⟩, fun p hp => ⟨hk₁ _ _ (fun q => hI' p hp (List.mem_singleton.mp q)) (G.N p hp).1, (G.N p hp).2⟩⟩
  by_cases hlt : i < n
  · refine W.item i _ _ _ hlt hS' fun v h₁ tk₁ hPv hst₁ hk₁ => ?_
    obtain ⟨F₁, N₁⟩ := next h₁ hk₁
    have S₁ : St c m' news' { s' with heap := h₁, toks := tk₁ } := S'.heap ⟨h₀, G.at (by rw [fe]; exact F₁) N₁⟩
    refine wpAny_assign_Name (wpAny_storeName_local hx F₁.ns (fun h₂ hn₂ hs₂ => ?_) ?_)
    · have F₂ := F₁.set hn₂ hs₂
      have N₂ := N₁.set hs₂
      have hst₂ : Sn (i + 1) h₂ := W.frame _ _ _ hst₁ fun b hb o e => (hs₂.2 b fun q => by
        subst q
        rcases List.mem_cons.mp hb with z | z
        · exact hne.1 z.symm
        · exact hne.2 (List.mem_singleton.mp z).symm).trans e
      obtain ⟨oI, hoI, hodd, hdict⟩ := hit _ _ hst₂
      have N₃ : News h₀ c.L h₂ ((I, oI) :: news') := fun p hp => by
        rcases List.mem_cons.mp hp with rfl | hp
        · exact ⟨hoI, hne.1, hI0⟩
        · exact N₂ p hp
      have S₃ : St c (fun y => if y = x then some v else m' y) ((I, oI) :: news') { s' with heap := h₂, toks := tk₁ + 1 } := S'.heap ⟨h₀, G.toGr0.at (by rw [fe]; exact F₂), N₃, .none hcm⟩
      obtain ⟨d, hd, hvd⟩ := hP i v hPv
      have el : l.drop i = d :: l.drop (i + 1) := by
        obtain ⟨hlt', e⟩ := List.getElem?_eq_some_iff.mp hd
        rw [List.drop_eq_getElem_cons hlt', e]
      rw [el] at T'
      have hρ₃ : Loc (upd ρ' x (.dat d)) (fun y => if y = x then some v else m' y) ((I, oI) :: news') := (hρ'.mono (List.subset_cons_self _ _)).upd (.dat (hvd.mono fun _ hp => List.mem_cons_of_mem _ (hb hp)))
      have sub : base ⊆ (I, oI) :: news' := fun _ hp => List.mem_cons_of_mem _ (hb hp)
      refine wpAny_passesOwn hE ?_
      rcases T' with ⟨ρ₂, hB, T₂⟩ | ⟨hB, hno⟩
      · refine hB hcm _ _ _ _ E hE S₃ hρ₃ fun m₄ n₄ s₄ hn₄ S₄ hρ₄ => ?_
        obtain ⟨h₀', G₄⟩ := S₄.gr
        have ent : ∀ o', (I, o') ∈ n₄ → o' = oI := fun o' ho' => by
          have e1 := (G₄.N _ ho').1
          have e2 := (G₄.N _ (hn₄ (List.mem_cons_self ..))).1
          exact Option.some.inj (e1.symm.trans e2)
        have odd' : ∀ o', (I, o') ∈ n₄ → odd o' := fun o' ho' => by rw [ent o' ho']; exact hodd
        have dict' : ∀ o', (I, o') ∈ n₄ → o'.cls ≠ .type "dict" := fun o' ho' => by rw [ent o' ho']; exact hdict
        refine ⟨n + 1 - (i + 1), by omega, i + 1, m₄, drop I n₄, ρ₂, rfl, hlt, ⟨S₄.os, S₄.ga, h₀', G₄.sub hcm fun p hp => (mem_drop.mp hp).1⟩, fun p hp => mem_drop.mpr ⟨hn₄ (sub hp), hI p hp⟩, fun p hp => (mem_drop.mp hp).2, loc_drop odd' dict' hρ₄, ?_, T₂⟩
        refine W.frame _ _ _ hst₂ fun b hb' o' e => ?_
        rcases List.mem_cons.mp hb' with rfl | z
        · have e2 := (G₄.N _ (hn₄ (List.mem_cons_self ..))).1
          rw [hoI] at e; cases e; exact e2
        · obtain rfl := List.mem_singleton.mp z
          obtain ⟨oa, ha⟩ := hax
          have e1 := (N₃ _ (sub ha)).1
          rw [e] at e1; cases e1
          exact (G₄.N _ (hn₄ (sub ha))).1
      · cases o with
        | next ρ₂ => exact absurd rfl (hno ρ₂)
        | ret d' => exact hB hcm _ _ _ _ E hE S₃ hρ₃ fun m₄ v₄ n₄ s₄ hn₄ S₄ hv₄ => hQ m₄ v₄ n₄ s₄ (fun _ hp => hn₄ (sub hp)) S₄ hv₄
        | err => exact hB hcm _ _ _ _ E hE S₃ hρ₃ fun m₄ x₄ s₄ hx₄ => hQ m₄ x₄ s₄ (hx₄.imp (·.sub sub) (·.sub sub))
    · show (c.cs.kind == .class || (c.cs.kind == .module && _)) = false
      rw [O.kind]; rfl
  · have hin : i = n := by omega
    subst hin
    refine W.done _ _ _ hS' fun h₁ tk₁ hk₁ => wpAny_execs_nil ?_
    obtain ⟨F₁, N₁⟩ := next h₁ hk₁
    rw [hn, List.drop_length] at T'
    obtain rfl := T'
    exact hQ m' news' _ hb (S'.heap ⟨h₀, G.at (by rw [fe]; exact F₁) N₁⟩) hρ'
theorem lt_sizeL {h₀ h : Heap} {m : Str → Option Value} (F : Fr h₀ c.L h m) : h.objs.size ≠ c.L := by
  obtain ⟨o, _, _, ho, _⟩ := F.ns
  exact fun q => absurd (Heap.lt_size ho) (by rw [q]; exact Nat.lt_irrefl _)
theorem ne_size {h₀ h : Heap} (N : News h₀ c.L h news) : ∀ p ∈ news, p.1 ≠ h.objs.size := fun p hp q => absurd (Heap.lt_size (N p hp).1) (by rw [q]; exact Nat.lt_irrefl _)
theorem none_size {h₀ h : Heap} {m : Str → Option Value} (F : Fr h₀ c.L h m) : h₀.get? h.objs.size = none := by
  cases e : h₀.get? h.objs.size with
  | none => rfl
  | some o => exact absurd (Heap.lt_size (F.keep _ _ e)) (Nat.lt_irrefl _)
theorem ex_for_tup (O : c.Ok) {x : Str} {px pos : Pos} {iter : Expr} {body : List Stmt} {l : List Dat} {o : Out} (hi : EV c ρ iter (some (dt l))) (T : Turns c x body ρ l o) (hx : c.env.kindOf x = some .local)
    (hs : ∀ x, foldedSetIterable iter c.env x = pure x := by intro _; rfl) : EX1 c ρ (.For (.Name x px) iter body [] pos) o := by
  intro hc m news s Q E hE S hρ hQ
  refine wpAny_For (hi.env hc m news s _ _ S hρ fun v n₁ s₁ hn₁ S₁ hv => ?_) hs
  obtain ⟨h₀, G⟩ := S₁.gr
  cases hv with | dat hv => cases hv with | tuple hm hr =>
    rename_i ax vs nn
    refine iter_tuple (G.N.isTup hm) ?_
    have hIa : ax ≠ s₁.heap.objs.size := ne_size G.N _ hm
    have hk : ∀ b o, s₁.heap.get? b = some o → (s₁.heap.push { cls := .type "tuple_iterator", data := .fields #[.ref ax, .int 0 0] }).get? b = some o := fun b o e => Heap.get?_push_of_some _ e
    have S₂ : St c m n₁ { s₁ with heap := s₁.heap.push { cls := .type "tuple_iterator", data := .fields #[.ref ax, .int 0 0] } } := S₁.heap (n := s₁.toks) ⟨h₀, G.at (G.F.push _) (G.N.grown hk)⟩
    refine loop_go (hcm := hc) (Sn := fun i h => Heap.IsTupleIter h s₁.heap.objs.size ax i ∧ Heap.IsTuple h ax vs.toArray) O (n := vs.toArray.size) (Pn := fun i v => vs.toArray[i]? = some v) (Walks.tuple (A := c.A) O.hh s₁.heap.objs.size ax hIa vs.toArray) hx hE (by rw [List.size_toArray, lenOf hr]) (ne_size G.N) (fun i v q => ?_) (fun i h q => ?_) (lt_sizeL G.F) ⟨_, hm⟩ (G.fresh_g (none_size G.F)) T S₂ (hρ.mono hn₁) ?_ (hQ.sub hn₁)
    · have q' : vs[i]? = some v := by rw [← List.getElem?_toArray]; exact q
      have hlt : i < l.length := by rw [← lenOf hr]; exact (List.getElem?_eq_some_iff.mp q').1
      obtain ⟨v', a, b⟩ := DatAll.at hr (List.getElem?_eq_getElem hlt)
      rw [q'] at a; cases a
      exact ⟨_, List.getElem?_eq_getElem hlt, b⟩
    · obtain ⟨⟨o, a, b, _⟩, _⟩ := q
      refine ⟨o, a, ?_, ?_⟩
      · unfold odd; rw [b]; exact ⟨by decide, by decide, by decide, fun a q => by cases q⟩
      · rw [b]; decide
    · obtain ⟨o, ho, hc, n, hd⟩ := G.N.isTup hm
      exact ⟨⟨_, Heap.get?_push_size _ rfl, rfl, rfl⟩, ⟨o, hk _ _ ho, hc, n, hd⟩⟩
theorem ex_for_list (O : c.Ok) {x : Str} {px pos : Pos} {iter : Expr} {body : List Stmt} {l : List Dat} {o : Out} (hi : EV c ρ iter (some (dl l))) (T : Turns c x body ρ l o) (hx : c.env.kindOf x = some .local)
    (hs : ∀ x, foldedSetIterable iter c.env x = pure x := by intro _; rfl) : EX1 c ρ (.For (.Name x px) iter body [] pos) o := by
  intro hc m news s Q E hE S hρ hQ
  refine wpAny_For (hi.env hc m news s _ _ S hρ fun v n₁ s₁ hn₁ S₁ hv => ?_) hs
  obtain ⟨h₀, G⟩ := S₁.gr
  cases hv with | dat hv => cases hv with | list hm hr =>
    rename_i ax vs nn
    refine wpAny_pyIter_list (G.N.isList hm) ?_
    have hIa : ax ≠ s₁.heap.objs.size := ne_size G.N _ hm
    have hk : ∀ b o, s₁.heap.get? b = some o → (s₁.heap.push { cls := .type "list_iterator", data := .fields #[.ref ax, .int 0 0] }).get? b = some o := fun b o e => Heap.get?_push_of_some _ e
    have S₂ : St c m n₁ { s₁ with heap := s₁.heap.push { cls := .type "list_iterator", data := .fields #[.ref ax, .int 0 0] } } := S₁.heap (n := s₁.toks) ⟨h₀, G.at (G.F.push _) (G.N.grown hk)⟩
    refine loop_go (hcm := hc) (Sn := fun i h => Heap.IsListIter h s₁.heap.objs.size ax i ∧ Heap.IsList h ax vs.toArray) O (n := vs.toArray.size) (Pn := fun i v => vs.toArray[i]? = some v) (Walks.list (A := c.A) O.hh s₁.heap.objs.size ax hIa vs.toArray) hx hE (by rw [List.size_toArray, lenOf hr]) (ne_size G.N) (fun i v q => ?_) (fun i h q => ?_) (lt_sizeL G.F) ⟨_, hm⟩ (G.fresh_g (none_size G.F)) T S₂ (hρ.mono hn₁) ?_ (hQ.sub hn₁)
    · have q' : vs[i]? = some v := by rw [← List.getElem?_toArray]; exact q
      have hlt : i < l.length := by rw [← lenOf hr]; exact (List.getElem?_eq_some_iff.mp q').1
      obtain ⟨v', a, b⟩ := DatAll.at hr (List.getElem?_eq_getElem hlt)
      rw [q'] at a; cases a
      exact ⟨_, List.getElem?_eq_getElem hlt, b⟩
    · obtain ⟨⟨o, a, b, _⟩, _⟩ := q
      refine ⟨o, a, ?_, ?_⟩
      · unfold odd; rw [b]; exact ⟨by decide, by decide, by decide, fun a q => by cases q⟩
      · rw [b]; decide
    · obtain ⟨o, ho, hc, n, hd⟩ := G.N.isList hm
      exact ⟨⟨_, Heap.get?_push_size _ rfl, rfl, rfl⟩, ⟨o, hk _ _ ho, hc, n, hd⟩⟩
end
end Mine
end
end
section
open PySem PySem.W PyProof.Rows PySem.Spec PySem.Calls
set_option maxRecDepth 100000
set_option linter.unusedVariables false
noncomputable section
namespace Mine
section
variable {c : Cx} {m : Str → Option Value} {news news' : Led} {s s' : Shared} {ρ ρ' : Rho}
theorem caught (O : c.Ok) (hc : c.cmp = none) (hf : c.fix = false) (hx : nsIn (KF c.w) mainGlobals "ValueError" = some none) (hl : c.env.kindOf "ValueError" = some .globalImplicit) {x : Value} {b₀ : Stmt} {suite : List Stmt} {rest : List ExceptHandler} {np pos : Pos} {Q : Flow → Shared → Prop} {E : Value → Shared → Prop}
    (X : Flown c m news x s) (k : ∀ e h', St c m news { s with heap := h' } → wpAny c.M (c.A.mark (some (.ref e))) (execs (b₀ :: suite) c.env) Q (fun _ _ => False) { s with heap := h' }) :
    wpAny c.M c.A (noteFrame x c.env) (fun _ s₂ => wpAny c.M c.A (setFlight x none) (fun _ s₃ => wpAny c.M c.A (handleBy x c.env (.ExceptHandler (some (.Name "ValueError" np)) none (b₀ :: suite) pos :: rest)) Q E s₃) E s₂) E s := by
  obtain ⟨e, t, vs, G, h₀, rfl, os, ga, gr, R, U⟩ := X
  have key := caught_S0 (T' := "ValueError") (Q := Q) (E := fun _ _ => False) (b₀ := b₀) (suite := suite) (rest := rest) (np := np) (pos := pos) R gr.F gr.B U O.XB O.TB gr.D (KtsTurn.refl (g := h₀)) hx PyProof.Rows.Boot.«ValueError» ve_hn PySem.F.isExc_ValueError PySem.F.notTuple_ValueError (by rw [isSubtype_type]; kernel_rfl)
    (fun h' g' n₂ T F N2 got N K X P D => k e h' ⟨os, ga, g', ⟨⟨(fun q => by rw [hf] at q; cases q), gr.turn.trans (Trn.of T (tab_notin gr.D gr.tb)), K, F, X, P, D, (Trn.of T (tab_notin gr.D gr.tb)).tab gr.tb⟩, N, .none hc⟩⟩) O.kind hl ve_hd PassesOwnAt.never
  refine wpAny_mono key (fun _ s₂ h₂ => wpAny_mono h₂ (fun _ s₃ h₃ => wpAny_mono h₃ (fun _ _ q => q) fun _ _ q => q.elim) fun _ _ q => q.elim) fun _ _ q => q.elim
theorem st_storeA (O : c.Ok) (hc : c.cmp = none) {A : Around} {x : Str} {v : Value} {Q : Unit → Shared → Prop} {E : Value → Shared → Prop} (S : St c m news s) (hl : c.env.kindOf x = some .local)
    (h : ∀ s', St c (fun y => if y = x then some v else m y) news s' → Q () s') : wpAny c.M A (storeName c.env x v) Q E s := by
  obtain ⟨h₀, G⟩ := S.gr
  have F := G.F
  rw [Cx.fm_eq hc] at F
  exact stN F G.N (fun h' F' N' => h _ (S.heap ⟨h₀, G.toGr0.at (by rw [Cx.fm_eq hc]; exact F'), N', .none hc⟩)) O.kind hl
/-- try: x = e / except ValueError: x = None -/
theorem ex_try_assign (O : c.Ok) (hf : c.fix = false) (hx : nsIn (KF c.w) mainGlobals "ValueError" = some none) (hlv : c.env.kindOf "ValueError" = some .globalImplicit) {x : Str} {e : Expr} {p1 p2 p3 p4 p5 p6 pos : Pos} {k : Nat} {r : Option D} (h : EV c ρ e r) (hl : c.env.kindOf x = some .local)
    (hs : swapsWith e (some (.Name x p1)) p2.line c.env = pure false := by rfl) (hs' : swapsWith (.Constant .none k p4) (some (.Name x p5)) p6.line c.env = pure false := by rfl) :
    EX1 c ρ (.Try [.Assign [.Name x p1] e p2] [.ExceptHandler (some (.Name "ValueError" p3)) none [.Assign [.Name x p5] (.Constant .none k p4) p6] pos'] [] [] pos) (.next (upd ρ x (r.getD dn))) := by
  intro hc m news s Q E hE S hρ hQ
  refine wpAny_Try_except ?_
  refine wpAny_execs_cons (wpAny_Assign_Name (h.env hc m news s _ _ S hρ ?_) hs)
  cases r with
  | some d =>
    intro v n₁ s₁ hn₁ S₁ hv
    exact st_store O hc S₁ hl fun s₂ S₂ => wpAny_execs_nil (wpAny_execs_nil (hQ _ n₁ s₂ hn₁ S₂ ((hρ.mono hn₁).upd hv)))
  | none =>
    intro y s₁ X
    refine caught O hc hf hx hlv X fun e h' S₂ => ?_
    refine wpAny_execs_cons (wpAny_Assign_Name (wpAny_Constant_none (st_storeA O hc S₂ hl fun s₃ S₃ => ?_)) hs')
    exact wpAny_execs_nil (hQ _ news s₃ (List.Subset.refl _) S₃ (hρ.upd (.dat .none)))
/-- try: e; return True / except ValueError: return False -/
theorem ex_try_ret (O : c.Ok) (hf : c.fix = false) (hx : nsIn (KF c.w) mainGlobals "ValueError" = some none) (hlv : c.env.kindOf "ValueError" = some .globalImplicit) {e : Expr} {p1 p2 p3 p4 p5 p6 p7 pos pos' : Pos} {k k' : Nat} {r : Option D} (h : EV c ρ e r)
    (he : ∀ {Q : Flow → Shared → Prop} {E : Value → Shared → Prop} {s}, wpAny c.M c.A (eval e c.env) (fun _ s₁ => Q .next s₁) E s → wpAny c.M c.A (exec (.Expr e p1) c.env) Q E s) :
    EX1 c ρ (.Try [.Expr e p1, .Return (some (.Constant (.bool true) k p2)) p3] [.ExceptHandler (some (.Name "ValueError" p4)) none [.Return (some (.Constant (.bool false) k' p5)) p6] pos'] [] [] pos) (.ret (db r.isSome)) := by
  intro hc m news s Q E hE S hρ hQ
  refine wpAny_Try_except ?_
  refine wpAny_execs_cons (he (h.env hc m news s _ _ S hρ ?_))
  cases r with
  | some d =>
    intro v n₁ s₁ hn₁ S₁ hv
    exact wpAny_execs_cons (wpAny_Return_some (wpAny_Constant_bool (hQ m _ n₁ s₁ hn₁ S₁ (.dat (.bool true)))))
  | none =>
    intro y s₁ X
    refine caught O hc hf hx hlv X fun e h' S₂ => ?_
    exact wpAny_execs_cons (wpAny_Return_some (wpAny_Constant_bool (hQ m _ news _ (List.Subset.refl _) S₂ (.dat (.bool false)))))
theorem ex_expr {e : Expr} {pos : Pos} {d : D} (h : EV c ρ e (some d)) (hi : interactive c.env = false := by rfl) (hs : swapsWith e none pos.line c.env = pure false := by rfl) : EX1 c ρ (.Expr e pos) (.next ρ) := fun hc m news s Q E hE S hρ hQ =>
  wpAny_Expr_any (h.env hc m news s _ _ S hρ fun v n₁ s₁ hn₁ S₁ hv => hQ m n₁ s₁ hn₁ S₁ (hρ.mono hn₁)) hi hs
theorem ex_expr_err {e : Expr} {pos : Pos} (h : EV c ρ e none) (hi : interactive c.env = false := by rfl) (hs : swapsWith e none pos.line c.env = pure false := by rfl) : EX1 c ρ (.Expr e pos) .err := fun hc m news s Q E hE S hρ hQ =>
  wpAny_Expr_any (h.env hc m news s _ _ S hρ fun x s' hf => hQ m x s' (.inl hf)) hi hs

/-! a, b, .. = t -/
def Names (c : Cx) : List Expr → List Str → Prop
  | [], [] => True
  | e :: es, x :: xs => (∃ p, e = .Name x p) ∧ c.env.kindOf x = some .local ∧ Names c es xs
  | _, _ => False
def updAll (ρ : Rho) : List Str → List Dat → Rho
  | x :: xs, d :: l => updAll (upd ρ x (.dat d)) xs l
  | _, _ => ρ
theorem Names.length : ∀ {es : List Expr} {xs : List Str}, Names c es xs → (assignEach es c.env).length = xs.length ∧ (assignEach es c.env).findIdx? (·.1) = none
  | [], [], _ => ⟨rfl, rfl⟩
  | e :: es, x :: xs, ⟨⟨p, he⟩, _, k⟩ => by
    subst he
    have q := Names.length k
    constructor
    · show (assignEach es c.env).length + 1 = xs.length + 1
      rw [q.1]
    · show (((false, assign (.Name x p) c.env) :: assignEach es c.env).findIdx? (·.1)) = none
      rw [List.findIdx?_cons]
      simp [q.2]
theorem Names.run (O : c.Ok) (hc : c.cmp = none) : ∀ {es : List Expr} {xs : List Str}, Names c es xs → ∀ {m : Str → Option Value} {news : Led} {s : Shared} {ρ : Rho} {vs : List Value} {l : List Dat} {Q : Unit → Shared → Prop} {E : Value → Shared → Prop}, St c m news s → Loc ρ m news → DatAll news vs l → xs.length = l.length →
    (∀ m' s', St c m' news s' → Loc (updAll ρ xs l) m' news → Q () s') → wpAny c.M c.A (assignInOrder ((assignEach es c.env).map (·.2)) vs) Q E s
  | [], [], _, m, news, s, ρ, vs, l, Q, E, S, hρ, hv, hl, hQ => by
    refine assignInOrder_nil (hQ m s S ?_)
    cases l with
    | nil => exact hρ
    | cons => cases hl
  | e :: es, x :: xs, ⟨⟨p, he⟩, hk, k⟩, m, news, s, ρ, vs, l, Q, E, S, hρ, hv, hl, hQ => by
    subst he
    cases hv with
    | nil => cases hl
    | cons h r =>
      refine assignInOrder_cons (wpAny_assign_Name (st_store O hc S hk fun s' S' => ?_))
      exact Names.run O hc k S' (hρ.upd (.dat h)) r (Nat.succ.inj hl) hQ
theorem ex_unpack (O : c.Ok) {es : List Expr} {xs : List Str} {k : Nat} {tpos pos : Pos} {e : Expr} {l : List Dat} (h : EV c ρ e (some (dt l))) (hn : Names c es xs) (hl : xs.length = l.length)
    (h1 : swapsWithSole [.Tuple es k tpos] e pos.line c.env = pure false := by rfl) (h2 : swappedStores [.Tuple es k tpos] e c.env = pure none := by rfl) :
    EX1 c ρ (.Assign [.Tuple es k tpos] e pos) (.next (updAll ρ xs l)) := by
  intro hc m news s Q E hE S hρ hQ
  refine Assign_Tuple (h.env hc m news s _ _ S hρ fun v n₁ s₁ hn₁ S₁ hv => ?_) h1 h2
  obtain ⟨h₀, G⟩ := S₁.gr
  cases hv with | dat hv => cases hv with | tuple hm hr =>
    refine assign_Tuple_tuple (A := c.A) O.hh (G.N.isTup hm) (by rw [hn.length.1, List.size_toArray, lenOf hr, hl]) hn.length.2 fun h' he => ?_
    have F := G.F.extBut he (Nat.le_refl _)
    have N : News h₀ c.L h' n₁ := fun p hp => ⟨he _ _ (ne_size G.N p hp) (G.N p hp).1, (G.N p hp).2⟩
    exact hn.run O hc (s := { s₁ with heap := h' }) (S₁.heap ⟨h₀, G.at F N⟩) (hρ.mono hn₁) hr hl fun m' s' S' hρ' => hQ m' n₁ s' hn₁ S' hρ'

/-! f-strings -/
def EJ (c : Cx) (ρ : Rho) : List Expr → List Str → Prop
  | [], [] => True
  | e :: es, y :: ys => EV c ρ e (some (ds y)) ∧ EJ c ρ es ys
  | _, _ => False
def joinAll : Str → List Str → Str
  | a, [] => a
  | a, y :: ys => joinAll (a ++ y) ys
def JFit : Str → List Str → Prop
  | _, [] => True
  | a, y :: ys => (a ++ y).length ≤ 1000000 ∧ JFit (a ++ y) ys
theorem EJ.run : ∀ {es : List Expr} {ys : List Str} {acc : Str}, EJ c ρ es ys → JFit acc ys → ∀ {m : Str → Option Value} {news : Led} {s : Shared} {Q : Str → Shared → Prop} {E : Value → Shared → Prop}, St c m news s → Loc ρ m news →
    (∀ news' s', news ⊆ news' → St c m news' s' → Q (joinAll acc ys) s') → Joins c.M c.A E (evalEach es c.en) acc Q s
  | [], [], _, _, _, m, news, s, Q, E, S, hρ, hQ => hQ news s (List.Subset.refl _) S
  | e :: es, y :: ys, acc, ⟨h, k⟩, hf, m, news, s, Q, E, S, hρ, hQ => by
    show wpAny c.M c.A (eval e c.en) _ E s
    refine h m news s _ _ S hρ fun v n₁ s₁ hn₁ S₁ hv => ?_
    cases hv with | dat hv =>
      cases hv
      exact ⟨y, _, rfl, by rw [sizeLine_eq]; have := hf.1; omega, EJ.run k hf.2 S₁ (hρ.mono hn₁) fun n₂ s₂ hn₂ S₂ => hQ n₂ s₂ (fun _ hp => hn₂ (hn₁ hp)) S₂⟩
theorem jfit_len : ∀ {ys : List Str} {a : Str}, JFit a ys → a.length ≤ 1000000 → (joinAll a ys).length ≤ 1000000
  | [], _, _, h => h
  | _ :: ys, _, h, _ => jfit_len (ys := ys) h.2 h.1
theorem ev_joined {v₁ v₂ : Expr} {es : List Expr} {pos : Pos} {ys : List Str} (h : EJ c ρ (v₁ :: v₂ :: es) ys) (hf : JFit Str.empty ys) : EV c ρ (.JoinedStr (v₁ :: v₂ :: es) pos) (some (ds (joinAll Str.empty ys))) := by
  intro m news s Q E S hρ hQ
  refine wpAny_JoinedStr (h.run hf S hρ fun n₁ s₁ hn₁ S₁ => ⟨?_, hQ.ok hn₁ S₁.toks2 (.dat (.str _ _))⟩)
  rw [sizeLine_eq]
  have := jfit_len hf (by decide)
  omega
theorem ev_fmt_r {e : Expr} {pos : Pos} {x : Str} (h : EV c ρ e (some (ds x))) (hx : (reprText x).length ≤ 100000) : EV c ρ (.FormattedValue e 114 none pos) (some (ds (reprText x))) := by
  intro m news s Q E S hρ hQ
  refine wpAny_FormattedValue_repr (h m news s _ _ S hρ fun v n₁ s₁ hn₁ S₁ hv => ?_)
  cases hv with | dat hv =>
    cases hv
    have : (reprText x).length ≤ sizeLine := by rw [sizeLine_eq]; omega
    exact pyReprObj_str (formatField_str (fun t k => hQ.ok hn₁ S₁.toks2 (.dat (.str _ _))) this) this
theorem ev_fmt_s {e : Expr} {pos : Pos} {x : Str} (h : EV c ρ e (some (ds x))) (hx : x.length ≤ 100000) : EV c ρ (.FormattedValue e 115 none pos) (some (ds x)) := by
  intro m news s Q E S hρ hQ
  refine wpAny_FormattedValue_s (h m news s _ _ S hρ fun v n₁ s₁ hn₁ S₁ hv => ?_)
  cases hv with | dat hv =>
    cases hv
    have : x.length ≤ sizeLine := by rw [sizeLine_eq]; omega
    exact SB.convS_str (fun t k => formatField_str (fun t k => hQ.ok hn₁ S₁.toks2 (.dat (.str _ _))) this) this
end
end Mine
end
end
section
open PySem PySem.W PyProof.Rows PySem.Spec PySem.Calls
set_option maxRecDepth 100000
set_option linter.unusedVariables false
noncomputable section
namespace Mine
/-- data without parts -/
def flatD : Dat → Bool
  | .none | .bool _ | .int _ | .str _ => true
  | _ => false
theorem datIn_flat {news news' : Led} {v : Value} {d : Dat} (h : DatIn news v d) (hf : flatD d = true) : DatIn news' v d := by
  cases h <;> first | exact .none | exact .bool _ | exact .int _ _ | exact .str _ _ | cases hf
theorem datAll_flat {news news' : Led} : ∀ {vs : List Value} {l : List Dat}, DatAll news vs l → (∀ d ∈ l, flatD d = true) → DatAll news' vs l
  | _, _, .nil, _ => .nil
  | _, _, .cons h k, hf => .cons (datIn_flat h (hf _ (List.mem_cons_self ..))) (datAll_flat k fun d hd => hf d (List.mem_cons_of_mem _ hd))
theorem datAll_append {news : Led} : ∀ {vs us : List Value} {l k : List Dat}, DatAll news vs l → DatAll news us k → DatAll news (vs ++ us) (l ++ k)
  | _, _, _, _, .nil, h => h
  | _, _, _, _, .cons a b, h => .cons a (datAll_append b h)
/-- the comprehension's own place inside the frame c -/
def inC (c : Cx) (e : Env) (m : Str → Option Value) : Cx := { c with cmp := some (e, m) }
def one (x : Str) (d : Dat) : Rho := fun y => if y = x then some (.dat d) else none
/-- one item of a comprehension: what the test says, what the element is -/
def Item (c : Cx) (scope : Scope) (x : Str) (ct : Option Expr) (elt : Expr) (d : Dat) (r : Option Dat) : Prop :=
  ∀ C m, (inC c (compEnvC scope [] C c.env) m).Ok →
    (match ct, r with
      | none, some y => EV (inC c (compEnvC scope [] C c.env) m) (one x d) elt (some (.dat y)) ∧ flatD y = true
      | some t, some y => ET (inC c (compEnvC scope [] C c.env) m) (one x d) t (some true) ∧ EV (inC c (compEnvC scope [] C c.env) m) (one x d) elt (some (.dat y)) ∧ flatD y = true
      | some t, none => ET (inC c (compEnvC scope [] C c.env) m) (one x d) t (some false)
      | none, none => False)
def Items (c : Cx) (scope : Scope) (x : Str) (ct : Option Expr) (elt : Expr) : List Dat → List Dat → Prop
  | [], o => o = []
  | d :: l, o => (∃ y o', Item c scope x ct elt d (some y) ∧ Items c scope x ct elt l o' ∧ o = y :: o') ∨ (Item c scope x ct elt d none ∧ Items c scope x ct elt l o)
def ifsOf : Option Expr → List Expr
  | none => []
  | some t => [t]
theorem inC_ok {c : Cx} {e : Env} {m : Str → Option Value} (O : c.Ok) (h1 : e.scope.kind = .function) (h2 : e.globals = mainGlobals) (h3 : e.builtins = builtinsNs) : (inC c e m).Ok := ⟨O.kind, O.XB, O.TB, O.hh, O.dep, O.uni, h1, h2, h3, O.bt⟩
theorem Items.flat {c : Cx} {scope : Scope} {x : Str} {ct : Option Expr} {elt : Expr} (hok : ∃ C m, (inC c (compEnvC scope [] C c.env) m).Ok) : ∀ {l o : List Dat}, Items c scope x ct elt l o → (∀ y ∈ o, flatD y = true) ∧ o.length ≤ l.length
  | [], o, h => by cases h; exact ⟨(fun y hy => by cases hy), Nat.le_refl _⟩
  | d :: l, o, h => by
    rcases h with ⟨y, o', hi, hr, rfl⟩ | ⟨_, hr⟩
    · have q := Items.flat hok hr
      obtain ⟨C, m, hO⟩ := hok
      have hy : flatD y = true := by
        have z := hi C m hO
        cases ct with
        | none => exact z.2
        | some t => exact z.2.2
      exact ⟨fun z hz => by rcases List.mem_cons.mp hz with rfl | hz; exact hy; exact q.1 z hz, Nat.succ_le_succ q.2⟩
    · have q := Items.flat hok hr
      exact ⟨q.1, Nat.le_succ_of_le q.2⟩
section
variable {c : Cx} {m : Str → Option Value} {news news' : Led} {s s' : Shared} {ρ ρ' : Rho}
theorem Gr0.toC {h₀ h : Heap} {e : Env} {m' : Str → Option Value} (hc : c.cmp = none) (G : Gr0 c m h₀ h) : Gr0 (inC c e m) m' h₀ h :=
  ⟨G.fixd, G.turn, G.B, by have := G.F; rw [Cx.fm_eq hc] at this; exact this, G.X, G.T, G.D, G.tb⟩
theorem Gr0.ofC {h₀ h : Heap} {e : Env} {m' : Str → Option Value} (hc : c.cmp = none) (G : Gr0 (inC c e m) m' h₀ h) : Gr0 c m h₀ h :=
  ⟨G.fixd, G.turn, G.B, by rw [Cx.fm_eq hc]; exact G.F, G.X, G.T, G.D, G.tb⟩
theorem comp_go (O : c.Ok) (hcm : c.cmp = none) {x : Str} {px pos : Pos} {iter elt : Expr} {ct : Option Expr} {scope : Scope} {I : Addr} {fp : List Addr} {n : Nat} {Pn : Nat → Value → Prop} {Sn : Nat → Heap → Prop} (W : Walks P c.w c.A I fp [I] n Pn Sn)
    {l out : List Dat} {base : Led} (hn : n = l.length) (hsz : l.length ≤ 1000000) (hI : ∀ p ∈ base, p.1 ≠ I) (hIL : I ≠ c.L) (hg : c.g₀.get? I = none) (hfp : ∀ b ∈ fp, b = I ∨ ∃ o, (b, o) ∈ base)
    (hP : ∀ i v, Pn i v → ∃ d, l[i]? = some d ∧ DatIn base v d)
    (hcell : ∀ y ∈ scope.names, y.2 ≠ .cell) (hkind : scope.kind = .function) (hx : scope.names.lookup x = some .local) (hIs : Items c scope x ct elt l out) (S : St c m base s) (hS : Sn 0 s.heap) (hIlt : I < s.heap.objs.size)
    {RR : Value → Addr → Result → Shared → Prop} {E : Value → Shared → Prop}
    (hRR : ∀ D C s' m', St c m ((D, LCg.lst (m' : List Value)) :: base) s' → DatAll [] m' out → (∃ mc, s'.heap.Ns C mc) → c.g₀.get? C = none → C ≠ c.L → D ≠ C → (∀ p ∈ base, p.1 ≠ C) → RR (.ref D) C (.ok .next) s') :
    wpAny c.M c.A (newList []) (fun acc s₃ => wpAny c.M c.A (newFunctionEnv scope c.env.globals [] [] c.env.qual none .none (some c.env)) (fun cenv s₄ =>
      codeAny c.M c.A (.compStart (.ListComp elt [⟨.Name x px, iter, ifsOf ct, 0⟩] scope pos) 0 (.ref I) acc { cenv with scope := relabel scope c.env }) (RR acc cenv.locals) s₄) E s₃) E s := by
  obtain ⟨h₀, G⟩ := S.gr
  have GF : Fr h₀ c.L s.heap m := by have := G.F; rwa [Cx.fm_eq hcm] at this
  refine wpAny_newObj_type (wpAny_newFunctionEnv hcell (by intro y hy; simp at hy) (fun h₁ hns₁ hsb₁ => ?_) hkind)
  dsimp only at hns₁ hsb₁ ⊢
  generalize hH2 : s.heap.push { cls := .type "list", dict := none, data := .seq ([] : List Value).toArray } = H2 at hns₁ hsb₁ ⊢
  have hC : H2.objs.size = s.heap.objs.size + 1 := by rw [← hH2, Heap.size_push]
  have hDC : s.heap.objs.size ≠ H2.objs.size := by rw [hC]; exact Nat.ne_of_lt (Nat.lt_succ_self _)
  have below : ∀ b, b < s.heap.objs.size → b ≠ H2.objs.size ∧ b ≠ s.heap.objs.size := fun b hb => ⟨by rw [hC]; exact Nat.ne_of_lt (Nat.lt_succ_of_lt hb), Nat.ne_of_lt hb⟩
  have old : ∀ b o, s.heap.get? b = some o → h₁.get? b = some o := fun b o e => hsb₁.extBut b o (below b (Heap.lt_size e)).1 (Heap.get?_push_of_some _ (hH2 ▸ Heap.get?_push_of_some _ e))
  have hacc : h₁.get? s.heap.objs.size = some (LCg.lst []) := hsb₁.extBut _ _ hDC (Heap.get?_push_of_some _ (hH2 ▸ Heap.get?_push_size _ rfl))
  have hst₁ : Sn 0 h₁ := W.frame _ _ _ hS fun b _ o e => old b o e
  have fresh : ∀ a, s.heap.objs.size ≤ a → h₀.get? a = none := fun a ha => by
    cases e : h₀.get? a with
    | none => rfl
    | some o' => exact absurd (Heap.lt_size (GF.keep a o' e)) (Nat.not_lt.mpr ha)
  have hD0 := fresh s.heap.objs.size (Nat.le_refl _)
  have hC0 := fresh H2.objs.size (by rw [hC]; exact Nat.le_succ _)
  have hDg := G.fresh_g hD0
  have hCg := G.fresh_g hC0
  have hLlt : c.L < s.heap.objs.size := GF.ns.lt
  have hDL : s.heap.objs.size ≠ c.L := Ne.symm (below c.L hLlt).2
  have hCL : H2.objs.size ≠ c.L := Ne.symm (below c.L hLlt).1
  have hCI : I ≠ H2.objs.size := (below I hIlt).1
  have hDI : I ≠ s.heap.objs.size := (below I hIlt).2
  have bC : ∀ p ∈ base, p.1 ≠ H2.objs.size := fun p hp => (below _ (Heap.lt_size (G.N p hp).1)).1
  have bD : ∀ p ∈ base, p.1 ≠ s.heap.objs.size := fun p hp => (below _ (Heap.lt_size (G.N p hp).1)).2
  have fpC : ∀ b ∈ fp, b ≠ H2.objs.size ∧ b ≠ s.heap.objs.size := fun b hb => by
    rcases hfp b hb with rfl | ⟨o, ho⟩
    · exact ⟨hCI, hDI⟩
    · exact ⟨bC _ ho, bD _ ho⟩
  have okC : ∀ mm, (inC c (compEnvC scope [] H2.objs.size c.env) mm).Ok := fun mm => inC_ok O (by simp [compEnvC, relabel, hkind]) (by rw [← Cx.en_eq hcm]; exact O.eg) (by rw [← Cx.en_eq hcm]; exact O.eb)
  have fl := Items.flat ⟨_, m, okC m⟩ hIs
  generalize hDD : s.heap.objs.size = D at *
  generalize hCC : H2.objs.size = C at *
  have loop : ∀ s₃ : Shared, s₃ = { s with heap := h₁, toks := s.toks + ([] : List (Str × Value)).length } →
      codeAny c.M c.A (.compLoop (.ListComp elt [⟨.Name x px, iter, ifsOf ct, 0⟩] scope pos) 0 (.ref I) (.ref D) (compEnvC scope [] C c.env)) (RR (.ref D) C) s₃ := by
    rintro s₃ rfl
    refine codeAny_compLoop_tests
      (fun k s' => ∃ i ys done rest, k = n + 1 - i ∧ i ≤ n ∧ ys.length ≤ i ∧ Sn i s'.heap ∧ St c m ((D, LCg.lst ys) :: base) s' ∧ (∃ mc, s'.heap.Ns C mc) ∧ DatAll [] ys done ∧ Items c scope x ct elt (l.drop i) rest ∧ done ++ rest = out) ?_ (n + 1)
      ⟨0, [], [], out, rfl, Nat.zero_le _, Nat.le_refl _, hst₁, ?_, ⟨_, hns₁⟩, .nil, hIs, rfl⟩
    · rintro k s' ⟨i, ys, done, rest, rfl, hi, hyl, hst', S', ⟨mc, hns'⟩, hys, hIt, hdr⟩
      obtain ⟨h₀', G'⟩ := S'.gr
      have GF' : Fr h₀' c.L s'.heap m := by have := G'.F; rwa [Cx.fm_eq hcm] at this
      have hI0' : h₀'.get? I = none := G'.turn.none_ _ hg
      have hC0' : h₀'.get? C = none := G'.turn.none_ _ hCg
      by_cases hlt : i < n
      · refine W.item i _ _ _ hlt hst' fun v h₂ tk₂ hPv hst₂ hk₂ => ?_
        refine wpAny_assign_Name (wpAny_storeName_local (lookup_relabel_local hx) (hns'.at' fun o e => hk₂ _ o (by simpa using Ne.symm hCI) e) (fun h₃ hn₃ hs₃ => ?_) (by simp [compEnvC, relabel, hkind]))
        have k3 : ∀ b o, b ≠ I → b ≠ C → s'.heap.get? b = some o → h₃.get? b = some o := fun b o hbI hbC e => hs₃.extBut b o hbC (hk₂ b o (by simpa using hbI) e)
        have hst₃ : Sn (i + 1) h₃ := W.frame _ _ _ hst₂ fun b hb o e => hs₃.extBut b o (fpC b hb).1 e
        obtain ⟨oC, heC, hoC⟩ := LCg.ns_obj hn₃
        obtain ⟨iE, hiE⟩ : ∃ iE : Led, iE = match h₃.get? I with | some o => [(I, o)] | none => [] := ⟨_, rfl⟩
        have hiE1 : ∀ p ∈ iE, p.1 = I ∧ h₃.get? I = some p.2 := fun p hp => by
          rw [hiE] at hp
          split at hp
          · rename_i o ho
            obtain rfl := List.mem_singleton.mp hp
            exact ⟨rfl, ho⟩
          · cases hp
        have hiE2 : ∀ o, h₃.get? I = some o → (I, o) ∈ iE := fun o ho => by rw [hiE, ho]; exact List.mem_singleton.mpr rfl
        have F₃ : Fr h₀' c.L h₃ m := (LCg.fr_but GF' hk₂ (Ne.symm hIL) hI0').change hs₃ hCL hC0'
        have N₃ : News h₀' c.L h₃ (iE ++ (C, oC) :: (D, LCg.lst ys) :: base) := fun p hp => by
          rcases List.mem_append.mp hp with hp | hp
          · obtain ⟨rfl, e⟩ := hiE1 p hp
            exact ⟨e, hIL, hI0'⟩
          · rcases List.mem_cons.mp hp with rfl | hp
            · exact ⟨heC, hCL, hC0'⟩
            · have z := G'.N p hp
              refine ⟨k3 _ _ ?_ ?_ z.1, z.2⟩
              · rcases List.mem_cons.mp hp with rfl | hp
                · exact Ne.symm hDI
                · exact hI p hp
              · rcases List.mem_cons.mp hp with rfl | hp
                · exact hDC
                · exact bC p hp
        have subB : base ⊆ iE ++ (C, oC) :: (D, LCg.lst ys) :: base := fun p hp => List.mem_append_right _ (List.mem_cons_of_mem _ (List.mem_cons_of_mem _ hp))
        obtain ⟨d, hd, hvd⟩ := hP i v hPv
        have el : l.drop i = d :: l.drop (i + 1) := by
          obtain ⟨hlt', e⟩ := List.getElem?_eq_some_iff.mp hd
          rw [List.drop_eq_getElem_cons hlt', e]
        rw [el] at hIt
        have S₃ : St (inC c (compEnvC scope [] C c.env) m) (fun z => if z = x then some v else mc z) (iE ++ (C, oC) :: (D, LCg.lst ys) :: base) { s' with heap := h₃, toks := tk₂ + 1 } :=
          ⟨S'.os, S'.ga, h₀', ⟨G'.fixd, G'.turn, G'.B, F₃, G'.X, G'.T, G'.D, G'.tb⟩, N₃, ⟨oC, List.mem_append_right _ (List.mem_cons_self ..), hoC⟩⟩
        have hρ₃ : Loc (one x d) (fun z => if z = x then some v else mc z) (iE ++ (C, oC) :: (D, LCg.lst ys) :: base) := fun y e he => by
          unfold one at he
          by_cases hy : y = x
          · rw [if_pos hy] at he; cases he; exact ⟨v, if_pos hy, .dat (hvd.mono subB)⟩
          · rw [if_neg hy] at he; cases he
        -- what holds after whatever the item did
        have back : ∀ m₄ n₄ s₄, iE ++ (C, oC) :: (D, LCg.lst ys) :: base ⊆ n₄ → St (inC c (compEnvC scope [] C c.env) m) m₄ n₄ s₄ →
            Sn (i + 1) s₄.heap ∧ St c m ((D, LCg.lst ys) :: base) s₄ ∧ (∃ mc, s₄.heap.Ns C mc) := fun m₄ n₄ s₄ hn₄ S₄ => by
          obtain ⟨h₀'', G₄⟩ := S₄.gr
          have mem : ∀ p ∈ iE ++ (C, oC) :: (D, LCg.lst ys) :: base, s₄.heap.get? p.1 = some p.2 := fun p hp => (G₄.N p (hn₄ hp)).1
          refine ⟨W.frame _ _ _ hst₃ fun b hb o e => ?_, ⟨S₄.os, S₄.ga, h₀'', Gr0.ofC (m := m) hcm G₄.toGr0, fun p hp => G₄.N p (hn₄ (List.mem_append_right _ (List.mem_cons_of_mem _ hp))), .none hcm⟩, _, hoC.ns (mem _ (List.mem_append_right _ (List.mem_cons_self ..)))⟩
          rcases hfp b hb with rfl | ⟨o', ho'⟩
          · exact mem _ (List.mem_append_left _ (hiE2 o e))
          · have e1 := (N₃ _ (subB ho')).1
            rw [e] at e1; cases e1
            exact mem _ (subB ho')
        have fin : ∀ y v₄ m₄ n₄ s₄ o' E', iE ++ (C, oC) :: (D, LCg.lst ys) :: base ⊆ n₄ → St (inC c (compEnvC scope [] C c.env) m) m₄ n₄ s₄ → DIn n₄ v₄ (.dat y) → flatD y = true → Items c scope x ct elt (l.drop (i + 1)) o' → rest = y :: o' →
            wpAny c.M c.A (call (.builtin "list.append") [.ref D, v₄]) (fun _ s₅ => ∃ k', k' < n + 1 - i ∧ ∃ i ys done rest, k' = n + 1 - i ∧ i ≤ n ∧ ys.length ≤ i ∧ Sn i s₅.heap ∧ St c m ((D, LCg.lst ys) :: base) s₅ ∧ (∃ mc, s₅.heap.Ns C mc) ∧ DatAll [] ys done ∧ Items c scope x ct elt (l.drop i) rest ∧ done ++ rest = out) E' s₄ := fun y v₄ m₄ n₄ s₄ o' E' hn₄ S₄ hv₄ hfy hIt' hr => by
          obtain ⟨hst₄, Sb, ⟨mc₄, hns₄⟩⟩ := back m₄ n₄ s₄ hn₄ S₄
          obtain ⟨h₀'', Gb⟩ := Sb.gr
          have zD := (Gb.N (D, LCg.lst ys) (List.mem_cons_self ..)).1
          have hD0'' : h₀''.get? D = none := Gb.turn.none_ _ hDg
          refine append_at zD (fun h₅ hs₅ hD₅ => ?_) (by rw [List.size_toArray, sizeLine_eq]; omega)
          have GbF : Fr h₀'' c.L s₄.heap m := by have := Gb.F; rwa [Cx.fm_eq hcm] at this
          refine ⟨n + 1 - (i + 1), by omega, i + 1, ys ++ [v₄], done ++ [y], o', rfl, hlt, by rw [List.length_append, List.length_singleton]; omega, W.frame _ _ _ hst₄ fun b hb o e => hs₅.extBut b o (fpC b hb).2 e,
            ⟨Sb.os, Sb.ga, h₀'', Gb.toGr0.at (by rw [Cx.fm_eq hcm]; exact GbF.change hs₅ hDL hD0''), fun p hp => ?_, .none hcm⟩, ⟨mc₄, hns₄.sameBut hs₅ (Ne.symm hDC)⟩, datAll_append hys (.cons (datIn_flat (by cases hv₄ with | dat h => exact h) hfy) .nil), hIt', by rw [List.append_assoc, ← hdr, hr]; rfl⟩
          rcases List.mem_cons.mp hp with rfl | hp
          · exact ⟨hD₅.trans (congrArg some (LCg.lst_snoc ys v₄)), hDL, hD0''⟩
          · exact ⟨hs₅.extBut _ _ (bD p hp) (Gb.N p (List.mem_cons_of_mem _ hp)).1, (Gb.N p (List.mem_cons_of_mem _ hp)).2⟩
        rcases hIt with ⟨y, o', hy, hIt', hr⟩ | ⟨hy, hIt'⟩
        · have hy := hy C m (okC m)
          cases ct with
          | none =>
            refine wpAny_tests_nil ?_
            simp only [if_true]
            exact hy.1 _ _ _ _ _ S₃ hρ₃ fun v₄ n₄ s₄ hn₄ S₄ hv₄ => fin y v₄ _ n₄ s₄ o' _ hn₄ S₄ hv₄ hy.2 hIt' hr
          | some t =>
            refine wpAny_tests_one (hy.1 _ _ _ _ _ S₃ hρ₃ fun n₄ s₄ hn₄ S₄ => ?_)
            simp only [if_true]
            exact hy.2.1 _ _ _ _ _ S₄ (hρ₃.mono hn₄) fun v₅ n₅ s₅ hn₅ S₅ hv₅ => fin y v₅ _ n₅ s₅ o' _ (fun _ hp => hn₅ (hn₄ hp)) S₅ hv₅ hy.2.2 hIt' hr
        · have hy := hy C m (okC m)
          cases ct with
          | none => exact hy.elim
          | some t =>
            refine wpAny_tests_one (hy _ _ _ _ _ S₃ hρ₃ fun n₄ s₄ hn₄ S₄ => ?_)
            simp only [Bool.false_eq_true, if_false]
            obtain ⟨a, b, mc₄, e⟩ := back _ n₄ s₄ hn₄ S₄
            exact ⟨n + 1 - (i + 1), by omega, i + 1, ys, done, rest, rfl, hlt, Nat.le_succ_of_le hyl, a, b, ⟨mc₄, e⟩, hys, hIt', hdr⟩
      · obtain rfl : i = n := Nat.le_antisymm hi (Nat.not_lt.mp hlt)
        rw [hn, List.drop_length] at hIt
        obtain rfl := hIt
        rw [List.append_nil] at hdr
        subst hdr
        refine W.done _ _ _ hst' fun h₂ tk₂ hk₂ => ?_
        refine hRR D C _ ys ⟨S'.os, S'.ga, h₀', G'.toGr0.at (by rw [Cx.fm_eq hcm]; exact LCg.fr_but GF' hk₂ (Ne.symm hIL) hI0'), LCg.news_but G'.N hk₂ fun p hp => ?_, .none hcm⟩ hys ⟨mc, hns'.at' fun o e => hk₂ _ o (by simpa using Ne.symm hCI) e⟩ hCg hCL hDC bC
        rcases List.mem_cons.mp hp with rfl | hp
        · exact Ne.symm hDI
        · exact hI p hp
    · refine S.heap ⟨h₀, G.toGr0.at (by rw [Cx.fm_eq hcm]; exact GF.keeps old), fun p hp => ?_, .none hcm⟩
      rcases List.mem_cons.mp hp with rfl | hp
      · exact ⟨hacc, hDL, hD0⟩
      · exact ⟨old _ _ (G.N p hp).1, (G.N p hp).2⟩
  exact codeAny_compStart_list (loop _ rfl) (W.self 0 _ _ _ hst₁ (loop _ rfl))
theorem comp_end (hcm : c.cmp = none) {D C : Addr} {ys : List Value} {base : Led} {out : List Dat} {Q : Value → Shared → Prop} {E : Value → Shared → Prop} (hC : c.g₀.get? C = none) (hCL : C ≠ c.L) (hDC : D ≠ C) (hb : ∀ p ∈ base, p.1 ≠ C) (S : St c m ((D, LCg.lst ys) :: base) s) (hns : ∃ mc, s.heap.Ns C mc) (hy : DatAll [] ys out)
    (hQ : VPost c m base (some (dl out)) Q E) : ∃ mc, s.heap.Ns C mc ∧ ∀ h'', Heap.SameBut C s.heap h'' → Q (.ref D) { s with heap := h'' } := by
  obtain ⟨mc, hn⟩ := hns
  refine ⟨mc, hn, fun h'' hs'' => ?_⟩
  obtain ⟨h₀, G⟩ := S.gr
  have GF : Fr h₀ c.L s.heap m := by have := G.F; rwa [Cx.fm_eq hcm] at this
  refine hQ.ok (List.subset_cons_self (D, LCg.lst ys) _) (s' := { s with heap := h'' }) (S.heap (n := s.toks) ⟨h₀, G.toGr0.at (by rw [Cx.fm_eq hcm]; exact GF.change hs'' hCL (G.turn.none_ _ hC)), fun p hp => ?_, .none hcm⟩) (.dat (.list (List.mem_cons_self ..) (hy.mono fun _ q => by cases q)))
  refine ⟨hs''.extBut _ _ ?_ (G.N p hp).1, (G.N p hp).2⟩
  rcases List.mem_cons.mp hp with rfl | hp
  · exact hDC
  · exact hb p hp
theorem ev_comp_list (O : c.Ok) (hcm : c.cmp = none) {x : Str} {px pos : Pos} {iter elt : Expr} {ct : Option Expr} {scope : Scope} {l out : List Dat} (hi : EV c ρ iter (some (dl l))) (hsz : l.length ≤ 1000000)
    (hIs : Items c scope x ct elt l out) (hclos : closureFor scope c.env = pure []) (hcell : ∀ y ∈ scope.names, y.2 ≠ .cell) (hkind : scope.kind = .function)
    (hnames : ∀ y ∈ scope.names, y.2 = .local → scope.names.lookup y.1 = some .local) (hx : scope.names.lookup x = some .local) (hs : ∀ x, foldedSetIterable iter c.env x = pure x := by intro _; rfl) :
    EV c ρ (.ListComp elt [⟨.Name x px, iter, ifsOf ct, 0⟩] scope pos) (some (dl out)) := by
  intro m news s Q E S hρ hQ
  rw [Cx.en_eq hcm, eval_ListComp]
  refine wpAny_comprehension_free (use := none) rfl hs hclos hkind hnames (hi.env hcm m news s _ _ S hρ fun v n₁ s₁ hn₁ S₁ hv => ?_)
  obtain ⟨h₀, G⟩ := S₁.gr
  cases hv with | dat hv => cases hv with | list hm hr =>
    rename_i ax vs nn
    refine wpAny_pyIter_list (G.N.isList hm) ?_
    have hIa : ax ≠ s₁.heap.objs.size := ne_size G.N _ hm
    have hk : ∀ b o, s₁.heap.get? b = some o → (s₁.heap.push { cls := .type "list_iterator", data := .fields #[.ref ax, .int 0 0] }).get? b = some o := fun b o e => Heap.get?_push_of_some _ e
    have S₂ : St c m n₁ { s₁ with heap := s₁.heap.push { cls := .type "list_iterator", data := .fields #[.ref ax, .int 0 0] } } := S₁.heap (n := s₁.toks) ⟨h₀, G.at (G.F.push _) (G.N.grown hk)⟩
    refine comp_go (n := vs.toArray.size) (Pn := fun i v => vs.toArray[i]? = some v) (Sn := fun i h => Heap.IsListIter h s₁.heap.objs.size ax i ∧ Heap.IsList h ax vs.toArray) O hcm (Walks.list (A := c.A) O.hh s₁.heap.objs.size ax hIa vs.toArray)
      (by rw [List.size_toArray, lenOf hr]) hsz (ne_size G.N) (lt_sizeL G.F) (G.fresh_g (none_size G.F)) (fun b hb => ?_) (fun i v q => ?_) hcell hkind hx hIs S₂ ?_ (by show _ < (s₁.heap.push _).objs.size; rw [Heap.size_push]; exact Nat.lt_succ_self _)
      fun D C s' ys S' hys hns hCg hCL hDC hbC => comp_end hcm hCg hCL hDC hbC S' hns hys (hQ.sub hn₁)
    · rcases List.mem_cons.mp hb with z | z
      · exact .inl z
      · exact .inr ⟨_, by rw [List.mem_singleton.mp z]; exact hm⟩
    · have q' : vs[i]? = some v := by rw [← List.getElem?_toArray]; exact q
      have hlt : i < l.length := by rw [← lenOf hr]; exact (List.getElem?_eq_some_iff.mp q').1
      obtain ⟨v', a, b⟩ := DatAll.at hr (List.getElem?_eq_getElem hlt)
      rw [q'] at a; cases a
      exact ⟨_, List.getElem?_eq_getElem hlt, b⟩
    · obtain ⟨o, ho, hc, n, hd⟩ := G.N.isList hm
      exact ⟨⟨_, Heap.get?_push_size _ rfl, rfl, rfl⟩, ⟨o, hk _ _ ho, hc, n, hd⟩⟩
theorem ev_comp_tup (O : c.Ok) (hcm : c.cmp = none) {x : Str} {px pos : Pos} {iter elt : Expr} {ct : Option Expr} {scope : Scope} {l out : List Dat} (hi : EV c ρ iter (some (dt l))) (hsz : l.length ≤ 1000000)
    (hIs : Items c scope x ct elt l out) (hclos : closureFor scope c.env = pure []) (hcell : ∀ y ∈ scope.names, y.2 ≠ .cell) (hkind : scope.kind = .function)
    (hnames : ∀ y ∈ scope.names, y.2 = .local → scope.names.lookup y.1 = some .local) (hx : scope.names.lookup x = some .local) (hs : ∀ x, foldedSetIterable iter c.env x = pure x := by intro _; rfl) :
    EV c ρ (.ListComp elt [⟨.Name x px, iter, ifsOf ct, 0⟩] scope pos) (some (dl out)) := by
  intro m news s Q E S hρ hQ
  rw [Cx.en_eq hcm, eval_ListComp]
  refine wpAny_comprehension_free (use := none) rfl hs hclos hkind hnames (hi.env hcm m news s _ _ S hρ fun v n₁ s₁ hn₁ S₁ hv => ?_)
  obtain ⟨h₀, G⟩ := S₁.gr
  cases hv with | dat hv => cases hv with | tuple hm hr =>
    rename_i ax vs nn
    refine iter_tuple (G.N.isTup hm) ?_
    have hIa : ax ≠ s₁.heap.objs.size := ne_size G.N _ hm
    have hk : ∀ b o, s₁.heap.get? b = some o → (s₁.heap.push { cls := .type "tuple_iterator", data := .fields #[.ref ax, .int 0 0] }).get? b = some o := fun b o e => Heap.get?_push_of_some _ e
    have S₂ : St c m n₁ { s₁ with heap := s₁.heap.push { cls := .type "tuple_iterator", data := .fields #[.ref ax, .int 0 0] } } := S₁.heap (n := s₁.toks) ⟨h₀, G.at (G.F.push _) (G.N.grown hk)⟩
    refine comp_go (n := vs.toArray.size) (Pn := fun i v => vs.toArray[i]? = some v) (Sn := fun i h => Heap.IsTupleIter h s₁.heap.objs.size ax i ∧ Heap.IsTuple h ax vs.toArray) O hcm (Walks.tuple (A := c.A) O.hh s₁.heap.objs.size ax hIa vs.toArray)
      (by rw [List.size_toArray, lenOf hr]) hsz (ne_size G.N) (lt_sizeL G.F) (G.fresh_g (none_size G.F)) (fun b hb => ?_) (fun i v q => ?_) hcell hkind hx hIs S₂ ?_ (by show _ < (s₁.heap.push _).objs.size; rw [Heap.size_push]; exact Nat.lt_succ_self _)
      fun D C s' ys S' hys hns hCg hCL hDC hbC => comp_end hcm hCg hCL hDC hbC S' hns hys (hQ.sub hn₁)
    · rcases List.mem_cons.mp hb with z | z
      · exact .inl z
      · exact .inr ⟨_, by rw [List.mem_singleton.mp z]; exact hm⟩
    · have q' : vs[i]? = some v := by rw [← List.getElem?_toArray]; exact q
      have hlt : i < l.length := by rw [← lenOf hr]; exact (List.getElem?_eq_some_iff.mp q').1
      obtain ⟨v', a, b⟩ := DatAll.at hr (List.getElem?_eq_getElem hlt)
      rw [q'] at a; cases a
      exact ⟨_, List.getElem?_eq_getElem hlt, b⟩
    · obtain ⟨o, ho, hc, n, hd⟩ := G.N.isTup hm
      exact ⟨⟨_, Heap.get?_push_size _ rfl, rfl, rfl⟩, ⟨o, hk _ _ ho, hc, n, hd⟩⟩
/-- the signs of a text, each a text -/
def signsD (x : Str) : List Dat := x.cps.toList.map fun k => .str ⟨#[k]⟩
theorem ev_comp_str (O : c.Ok) (hcm : c.cmp = none) {x : Str} {px pos : Pos} {iter elt : Expr} {ct : Option Expr} {scope : Scope} {t : Str} {out : List Dat} (hi : EV c ρ iter (some (ds t))) (hsz : t.length ≤ 1000000)
    (hIs : Items c scope x ct elt (signsD t) out) (hclos : closureFor scope c.env = pure []) (hcell : ∀ y ∈ scope.names, y.2 ≠ .cell) (hkind : scope.kind = .function)
    (hnames : ∀ y ∈ scope.names, y.2 = .local → scope.names.lookup y.1 = some .local) (hx : scope.names.lookup x = some .local) (hs : ∀ x, foldedSetIterable iter c.env x = pure x := by intro _; rfl) :
    EV c ρ (.ListComp elt [⟨.Name x px, iter, ifsOf ct, 0⟩] scope pos) (some (dl out)) := by
  intro m news s Q E S hρ hQ
  rw [Cx.en_eq hcm, eval_ListComp]
  refine wpAny_comprehension_free (use := none) rfl hs hclos hkind hnames (hi.env hcm m news s _ _ S hρ fun v n₁ s₁ hn₁ S₁ hv => ?_)
  obtain ⟨h₀, G⟩ := S₁.gr
  cases hv with | dat hv => cases hv with | str _ tk =>
    refine wpAny_pyIter_str fun o Sn W hst => ?_
    have hk : ∀ b o', s₁.heap.get? b = some o' → (s₁.heap.push o).get? b = some o' := fun b o e => Heap.get?_push_of_some _ e
    have S₂ : St c m n₁ { s₁ with heap := s₁.heap.push o } := S₁.heap (n := s₁.toks) ⟨h₀, G.at (G.F.push _) (G.N.grown hk)⟩
    have hlen : (signsD t).length = t.cps.size := by unfold signsD; simp
    refine comp_go (n := t.cps.size) (Pn := SignAt t) (Sn := Sn) O hcm (W c.A O.hh) hlen.symm (by rw [hlen]; exact hsz) (ne_size G.N) (lt_sizeL G.F) (G.fresh_g (none_size G.F)) (fun b hb => .inl (List.mem_singleton.mp hb)) (fun i v q => ?_) hcell hkind hx hIs S₂ hst (by show _ < (s₁.heap.push _).objs.size; rw [Heap.size_push]; exact Nat.lt_succ_self _)
      fun D C s' ys S' hys hns hCg hCL hDC hbC => comp_end hcm hCg hCL hDC hbC S' hns hys (hQ.sub hn₁)
    obtain ⟨k, u, hk, rfl⟩ := q
    refine ⟨.str ⟨#[k]⟩, ?_, .str _ _⟩
    unfold signsD
    rw [List.getElem?_map]
    have : t.cps.toList[i]? = some k := by simpa using hk
    rw [this]; rfl
end
end Mine
end
end
section
open PySem
set_option maxRecDepth 100000
set_option linter.unusedVariables false
set_option linter.unusedSimpArgs false
namespace Mine
open PySem.Sre
abbrev Ms := Array (Option Nat)
def mk (C T : Array Nat) (pc pos : Nat) (ms : Ms) (lm li : Int) (lo : Array Loop) (inn : Option Nat) (fr : List Sre.Frame) (w hd : Nat) (se : Seen) (ob : Bool) (an : Option Bool) : M :=
  { code := C, text := T, lim := T.size, start := 0, pc := pc, pos := pos, handed := hd, outermost := ob, marks := ms, lastmark := lm, lastindex := li, loops := lo, inner := inn, frames := fr, weight := w, seen := se, answer := an }
def stepN : Nat → M → M
  | 0, m => m
  | k + 1, m => stepN k m.step
theorem stepN_add (a b : Nat) (m : M) : stepN (a + b) m = stepN b (stepN a m) := by
  induction a generalizing m with
  | zero => rw [Nat.zero_add]; rfl
  | succ a ih => rw [Nat.succ_add]; exact ih _
theorem stepN1 (m : M) : stepN 1 m = m.step := rfl
/-- the marks below g.length are g -/
structure Pre (ms : Ms) (g : List (Option Nat)) : Prop where
  size : ms.size = 10
  le : g.length ≤ 10
  at_ : ∀ i, i < g.length → ms.getD i none = g.getD i none
def MK (ms : Ms) (lm : Int) (g : List (Option Nat)) : Prop := Pre ms g ∧ lm = (g.length : Int) - 1
def easy : Wait → Bool
  | .giveBack | .closeLoop | .maxMore | .maxTail | .nextStart => true
  | _ => false
structure Fok (fr : List Sre.Frame) (w d : Nat) : Prop where
  pops : ∀ f ∈ fr, easy f.wait = true
  len : fr.length ≤ d
  w : w ≤ 11 * d
theorem Fok.push {fr : List Sre.Frame} {w d : Nat} (h : Fok fr w d) {f : Sre.Frame} (hf : easy f.wait = true) (hk : f.kept.marks.size ≤ 10) : Fok (f :: fr) (w + 1 + f.kept.marks.size) (d + 1) :=
  ⟨fun x hx => by rcases List.mem_cons.mp hx with rfl | hx; exact hf; exact h.pops x hx, by simpa using h.len, by have := h.w; omega⟩
def WinS (g : List (Option Nat)) (m : M) : Prop := (∃ o, m.outcome = some o ∧ (match o with | .matched => True | _ => False)) ∧ MK m.marks m.lastmark g
def LoseS (C T : Array Nat) (g : List (Option Nat)) (lo : Array Loop) (inn : Option Nat) (fr : List Sre.Frame) (w : Nat) (m : M) : Prop :=
  ∃ pc pos ms lm li hd se ob, Pre ms g ∧ m = mk C T pc pos ms lm li lo inn fr w hd se ob (some false)
def Res (C T : Array Nat) (g : List (Option Nat)) (lo : Array Loop) (inn : Option Nat) (fr : List Sre.Frame) (w : Nat) (n : Nat) (r : Option (List (Option Nat))) (m : M) : Prop :=
  ∃ k, k ≤ n ∧ match r with
    | some g' => WinS g' (stepN k m)
    | none => LoseS C T g lo inn fr w (stepN k m)
theorem Res.steps {C T : Array Nat} {g : List (Option Nat)} {lo : Array Loop} {inn : Option Nat} {fr : List Sre.Frame} {w n : Nat} {r : Option (List (Option Nat))} {m : M} (j : Nat) (h : Res C T g lo inn fr w n r (stepN j m)) : Res C T g lo inn fr w (n + j) r m := by
  obtain ⟨k, hk, h⟩ := h
  refine ⟨j + k, by omega, ?_⟩
  rw [stepN_add]; exact h
theorem Res.le {C T : Array Nat} {g : List (Option Nat)} {lo : Array Loop} {inn : Option Nat} {fr : List Sre.Frame} {w n n' : Nat} {r : Option (List (Option Nat))} {m : M} (h : Res C T g lo inn fr w n r m) (hn : n ≤ n') : Res C T g lo inn fr w n' r m := by
  obtain ⟨k, hk, h⟩ := h
  exact ⟨k, by omega, h⟩
abbrev Ctx := Array Loop → Option Nat → Prop
/-- from here the machine ends so, whatever stands above -/
def R (C T : Array Nat) (K : Ctx) (d pc pos : Nat) (g : List (Option Nat)) (n : Nat) (r : Option (List (Option Nat))) : Prop :=
  ∀ ms lm li lo inn fr w hd se ob, MK ms lm g → Fok fr w d → K lo inn → Res C T g lo inn fr w n r (mk C T pc pos ms lm li lo inn fr w hd se ob none)
theorem op_at {k : Nat} {o : Op} (h : ops[k]? = some o) : ops[k]? = some o := h
section
variable {C T : Array Nat} {K : Ctx} {d pc pos : Nat} {g : List (Option Nat)} {n : Nat} {r : Option (List (Option Nat))}
theorem R.le (h : R C T K d pc pos g n r) {n' : Nat} (hn : n ≤ n') : R C T K d pc pos g n' r := fun ms lm li lo inn fr w hd se ob a b c => (h ms lm li lo inn fr w hd se ob a b c).le hn
theorem step_exec {ms : Ms} {lm li : Int} {lo : Array Loop} {inn : Option Nat} {fr : List Sre.Frame} {w hd : Nat} {se : Seen} {ob : Bool} (hlt : pc < C.size) :
    (mk C T pc pos ms lm li lo inn fr w hd se ob none).step = (mk C T pc pos ms lm li lo inn fr w hd se ob none).exec := by
  show (if pc < C.size then _ else _) = _
  rw [if_pos hlt]
theorem lose_now {ms : Ms} {lm li : Int} {lo : Array Loop} {inn : Option Nat} {fr : List Sre.Frame} {w hd : Nat} {se : Seen} {ob : Bool} (h : Pre ms g) : Res C T g lo inn fr w n none (mk C T pc pos ms lm li lo inn fr w hd se ob (some false)) :=
  ⟨0, Nat.zero_le _, pc, pos, ms, lm, li, hd, se, ob, h, rfl⟩
theorem r_literal {ch : Nat} (hlt : pc < C.size) (h0 : C.getD pc 0 = 16) (h1 : C.getD (pc + 1) 0 = ch) (hp : pos < T.size) (ht : T.getD pos 0 = ch) (h : R C T K d (pc + 2) (pos + 1) g n r) : R C T K d pc pos g (n + 1) r := by
  intro ms lm li lo inn fr w hd se ob hm hf hk
  refine Res.steps 1 ?_
  have e : stepN 1 (mk C T pc pos ms lm li lo inn fr w hd se ob none) = mk C T (pc + 2) (pos + 1) ms lm li lo inn fr w hd (se.add 16) ob none := by
    rw [stepN1, step_exec hlt]
    simp [-Array.getD_eq_getD_getElem?, M.exec, M.word, mk, h0, ops, accepts, itemWidth, h1, ht, hp, Nat.not_le.mpr hp]
  rw [e]
  exact h _ _ _ _ _ _ _ _ _ _ hm hf hk
theorem r_literal_no {ch : Nat} (hlt : pc < C.size) (h0 : C.getD pc 0 = 16) (h1 : C.getD (pc + 1) 0 = ch) (hp : pos < T.size → T.getD pos 0 ≠ ch) : R C T K d pc pos g 1 none := by
  intro ms lm li lo inn fr w hd se ob hm hf hk
  refine Res.steps (n := 0) 1 ?_
  have e : ∃ se', stepN 1 (mk C T pc pos ms lm li lo inn fr w hd se ob none) = mk C T pc pos ms lm li lo inn fr w hd se' ob (some false) := by
    rw [stepN1, step_exec hlt]
    by_cases hq : pos < T.size
    · have := beq_eq_false_iff_ne.mpr (hp hq)
      refine ⟨se.add 16, ?_⟩
      simp [-Array.getD_eq_getD_getElem?, M.exec, M.word, mk, h0, ops, accepts, itemWidth, h1, Nat.not_le.mpr hq, M.say]
      rw [this]
    · refine ⟨se.add 16, ?_⟩
      simp [-Array.getD_eq_getD_getElem?, M.exec, M.word, mk, h0, ops, Nat.not_lt.mp hq, M.say]
  obtain ⟨se', e⟩ := e
  rw [e]
  exact lose_now hm.1
theorem r_end {g' : List (Option Nat)} (hlt : pc < C.size) (h0 : C.getD pc 0 = 6) (h1 : C.getD (pc + 1) 0 = 5) (hp : pos = T.size) (h : R C T K d (pc + 2) pos g n r) : R C T K d pc pos g (n + 1) r := by
  intro ms lm li lo inn fr w hd se ob hm hf hk
  refine Res.steps 1 ?_
  have e : ∃ se', stepN 1 (mk C T pc pos ms lm li lo inn fr w hd se ob none) = mk C T (pc + 2) pos ms lm li lo inn fr w hd se' ob none := by
    refine ⟨(se.add 6).add 48, ?_⟩
    rw [stepN1, step_exec hlt]
    simp [-Array.getD_eq_getD_getElem?, M.exec, M.word, mk, h0, ops, h1, M.isAt, hp]
  obtain ⟨se', e⟩ := e
  rw [e]
  exact h _ _ _ _ _ _ _ _ _ _ hm hf hk
theorem r_end_no (hlt : pc < C.size) (h0 : C.getD pc 0 = 6) (h1 : C.getD (pc + 1) 0 = 5) (hp : pos < T.size) (ht : T.getD pos 0 ≠ 10) : R C T K d pc pos g 1 none := by
  intro ms lm li lo inn fr w hd se ob hm hf hk
  refine Res.steps (n := 0) 1 ?_
  have e : ∃ se', stepN 1 (mk C T pc pos ms lm li lo inn fr w hd se ob none) = mk C T pc pos ms lm li lo inn fr w hd se' ob (some false) := by
    refine ⟨(se.add 6).add 48, ?_⟩
    rw [stepN1, step_exec hlt]
    simp [-Array.getD_eq_getD_getElem?, M.exec, M.word, mk, h0, ops, h1, M.isAt, ht, Nat.ne_of_lt hp, M.say]
  obtain ⟨se', e⟩ := e
  rw [e]
  exact lose_now hm.1
theorem r_begin (hlt : pc < C.size) (h0 : C.getD pc 0 = 6) (h1 : C.getD (pc + 1) 0 = 0) (hp : pos = 0) (h : R C T K d (pc + 2) pos g n r) : R C T K d pc pos g (n + 1) r := by
  intro ms lm li lo inn fr w hd se ob hm hf hk
  refine Res.steps 1 ?_
  have e : ∃ se', stepN 1 (mk C T pc pos ms lm li lo inn fr w hd se ob none) = mk C T (pc + 2) pos ms lm li lo inn fr w hd se' ob none := by
    refine ⟨(se.add 6).add 43, ?_⟩
    rw [stepN1, step_exec hlt]
    simp [-Array.getD_eq_getD_getElem?, M.exec, M.word, mk, h0, ops, h1, M.isAt, hp]
  obtain ⟨se', e⟩ := e
  rw [e]
  exact h _ _ _ _ _ _ _ _ _ _ hm hf hk

/-! marks -/
theorem getD_left {a b : List (Option Nat)} {j : Nat} (h : j < a.length) : (a ++ b).getD j none = a.getD j none := by simp only [List.getD, List.getElem?_append_left h]
theorem getD_right {a b : List (Option Nat)} {j : Nat} (h : a.length ≤ j) : (a ++ b).getD j none = b.getD (j - a.length) none := by simp only [List.getD, List.getElem?_append_right h]

def ext (g : List (Option Nat)) (i p : Nat) : List (Option Nat) := g ++ List.replicate (i - g.length) none ++ [some p]
theorem ext_len {i p : Nat} (h : g.length ≤ i) : (ext g i p).length = i + 1 := by simp [ext]; omega
theorem ext_old {i p j : Nat} (h : j < g.length) : (ext g i p).getD j none = g.getD j none := by
  unfold ext
  rw [List.append_assoc, getD_left h]
theorem clear_getD (lm : Int) : ∀ (k : Nat) (a : Ms) (j : Nat), ((List.range k).foldl (fun (a : Ms) (j : Nat) => if (j : Int) > lm then a.setIfInBounds j none else a) a).getD j none = if j < k ∧ (j : Int) > lm then none else a.getD j none := by
  intro k
  induction k with
  | zero => intro a j; simp
  | succ k ih =>
    intro a j
    rw [List.range_succ, List.foldl_append]
    simp only [List.foldl_cons, List.foldl_nil]
    split
    · rename_i hk
      rw [Array.getD_eq_getD_getElem?, Array.getElem?_setIfInBounds]
      by_cases hj : k = j
      · subst hj
        rw [if_pos rfl, if_pos (⟨Nat.lt_succ_self _, hk⟩ : k < k + 1 ∧ (k : Int) > lm)]
        split <;> rfl
      · rw [if_neg hj, ← Array.getD_eq_getD_getElem?, ih]
        by_cases h1 : j < k ∧ (j : Int) > lm
        · rw [if_pos h1, if_pos (⟨by omega, h1.2⟩ : j < k + 1 ∧ (j : Int) > lm)]
        · rw [if_neg h1, if_neg (by omega)]
    · rename_i hk
      rw [ih]
      by_cases h1 : j < k ∧ (j : Int) > lm
      · rw [if_pos h1, if_pos (⟨by omega, h1.2⟩ : j < k + 1 ∧ (j : Int) > lm)]
      · rw [if_neg h1, if_neg (by intro q; apply h1; refine ⟨?_, q.2⟩; have : j ≠ k := fun e => hk (e ▸ q.2); omega)]
theorem clear_size (lm : Int) : ∀ (k : Nat) (a : Ms), ((List.range k).foldl (fun (a : Ms) (j : Nat) => if (j : Int) > lm then a.setIfInBounds j none else a) a).size = a.size := by
  intro k
  induction k with
  | zero => intro a; rfl
  | succ k ih =>
    intro a
    rw [List.range_succ, List.foldl_append]
    simp only [List.foldl_cons, List.foldl_nil]
    split
    · rw [Array.size_setIfInBounds, ih]
    · exact ih a
theorem mk_ext {ms : Ms} {lm : Int} {i p : Nat} (hm : MK ms lm g) (hi : g.length ≤ i) (h10 : i < 10) :
    MK ((if (i : Int) ≤ lm + 1 then ms else (List.range i).foldl (fun (a : Ms) (j : Nat) => if (j : Int) > lm then a.setIfInBounds j none else a) ms).setIfInBounds i (some p)) (max lm i) (ext g i p) := by
  obtain ⟨⟨hs, hl, ha⟩, hlm⟩ := hm
  have size : (if (i : Int) ≤ lm + 1 then ms else (List.range i).foldl (fun (a : Ms) (j : Nat) => if (j : Int) > lm then a.setIfInBounds j none else a) ms).size = 10 := by
    split
    · exact hs
    · rw [clear_size, hs]
  refine ⟨⟨by rw [Array.size_setIfInBounds, size], by rw [ext_len hi]; omega, fun j hj => ?_⟩, by rw [ext_len hi]; omega⟩
  rw [ext_len hi] at hj
  rw [Array.getD_eq_getD_getElem?, Array.getElem?_setIfInBounds]
  by_cases e : i = j
  · subst e
    rw [if_pos rfl, size, if_pos h10]
    unfold ext
    rw [getD_right (by simp; omega)]
    have : i - (g ++ List.replicate (i - g.length) none).length = 0 := by simp; omega
    rw [this]; rfl
  · rw [if_neg e, ← Array.getD_eq_getD_getElem?]
    by_cases hg : j < g.length
    · rw [ext_old hg, ← ha j hg]
      split
      · rfl
      · rw [clear_getD, if_neg (by omega)]
    · have hz : (ext g i p).getD j none = none := by
        unfold ext
        rw [getD_left (by simp; omega), getD_right (by omega)]
        simp only [List.getD, List.getElem?_replicate]
        split <;> rfl
      rw [hz, if_neg (by omega), clear_getD, if_pos (by omega)]
theorem Pre.of_ext {ms : Ms} {i p : Nat} (h : Pre ms (ext g i p)) (hi : g.length ≤ i) : Pre ms g := by
  obtain ⟨hs, hl, ha⟩ := h
  rw [ext_len hi] at hl
  refine ⟨hs, by omega, fun j hj => ?_⟩
  rw [ha j (by rw [ext_len hi]; omega), ext_old hj]
theorem LoseS.of_ext {i p : Nat} {lo : Array Loop} {inn : Option Nat} {fr : List Sre.Frame} {w : Nat} {m : M} (h : LoseS C T (ext g i p) lo inn fr w m) (hi : g.length ≤ i) : LoseS C T g lo inn fr w m := by
  obtain ⟨pc, pos, ms, lm, li, hd, se, ob, h, e⟩ := h
  exact ⟨pc, pos, ms, lm, li, hd, se, ob, h.of_ext hi, e⟩
theorem Res.of_ext {i p : Nat} {lo : Array Loop} {inn : Option Nat} {fr : List Sre.Frame} {w n : Nat} {m : M} (h : Res C T (ext g i p) lo inn fr w n r m) (hi : g.length ≤ i) : Res C T g lo inn fr w n r m := by
  obtain ⟨k, hk, h⟩ := h
  refine ⟨k, hk, ?_⟩
  cases r with
  | none => exact LoseS.of_ext h hi
  | some => exact h
theorem r_mark {i : Nat} (hlt : pc < C.size) (h0 : C.getD pc 0 = 17) (h1 : C.getD (pc + 1) 0 = i) (hi : g.length ≤ i) (h10 : i < 10) (h : R C T K d (pc + 2) pos (ext g i pos) n r) : R C T K d pc pos g (n + 1) r := by
  intro ms lm li lo inn fr w hd se ob hm hf hk
  refine Res.steps 1 ?_
  have e : ∃ li' se', stepN 1 (mk C T pc pos ms lm li lo inn fr w hd se ob none) = mk C T (pc + 2) pos ((if (i : Int) ≤ lm + 1 then ms else (List.range i).foldl (fun (a : Ms) (j : Nat) => if (j : Int) > lm then a.setIfInBounds j none else a) ms).setIfInBounds i (some pos)) (max lm i) li' lo inn fr w hd se' ob none := by
    rw [stepN1, step_exec hlt]
    simp only [M.exec, M.word, mk, h0, h1, Nat.add_zero, show ops[17]? = some Op.MARK from rfl, M.mark]
    exact ⟨_, _, rfl⟩
  obtain ⟨li', se', e⟩ := e
  rw [e]
  exact (h _ _ _ _ _ _ _ _ _ _ (mk_ext hm hi h10) hf hk).of_ext hi
end
end Mine
end
section
open PySem
set_option maxRecDepth 100000
set_option linter.unusedVariables false
set_option linter.unusedSimpArgs false
namespace Mine
open PySem.Sre
/-- what a win needs of a state: it stays through the pops -/
theorem resume_yes (m : M) (f : Sre.Frame) (hf : easy f.wait = true) :
    ∃ lo inn, m.resume f true = { m with loops := lo, inner := inn, answer := some true } := by
  cases h : f.wait <;> rw [h] at hf <;> first | cases hf | skip
  all_goals simp only [M.resume, h, M.say, M.setLoop, if_true]
  all_goals exact ⟨_, _, rfl⟩
theorem pops {C T : Array Nat} {g : List (Option Nat)} : ∀ (fr : List Sre.Frame) (m : M), (∀ f ∈ fr, easy f.wait = true) → m.frames = fr → m.answer = some true → m.outcome = none → MK m.marks m.lastmark g → WinS g (stepN (fr.length + 1) m)
  | [], m, hp, hf, ha, ho, hm => by
    show WinS g (stepN 1 m)
    rw [stepN1]
    unfold M.step
    simp only [ho, Option.isSome_none, Bool.false_eq_true, if_false, ha, hf, if_true]
    exact ⟨⟨_, rfl, trivial⟩, hm⟩
  | f :: fr, m, hp, hf, ha, ho, hm => by
    show WinS g (stepN (fr.length + 1) m.step)
    have e : ∃ lo inn, m.step = { ({ m with answer := none, frames := fr, weight := m.weight - (1 + f.kept.marks.size), pc := f.pc, pos := f.pos, outermost := f.outermost } : M) with loops := lo, inner := inn, answer := some true } := by
      unfold M.step
      simp only [ho, Option.isSome_none, Bool.false_eq_true, if_false, ha, hf]
      exact resume_yes _ f (hp f (List.mem_cons_self ..))
    obtain ⟨lo, inn, e⟩ := e
    rw [e]
    exact pops (C := C) (T := T) fr _ (fun x hx => hp x (List.mem_cons_of_mem _ hx)) rfl rfl ho hm
section
variable {C T : Array Nat} {K : Ctx} {d pc pos : Nat} {g : List (Option Nat)} {n : Nat} {r : Option (List (Option Nat))}
theorem r_success (hlt : pc < C.size) (h0 : C.getD pc 0 = 1) : R C T K d pc pos g (d + 2) (some g) := by
  intro ms lm li lo inn fr w hd se ob hm hf hk
  refine (Res.steps (n := fr.length + 1) 1 ?_).le (by have := hf.len; omega)
  have e : ∃ se', stepN 1 (mk C T pc pos ms lm li lo inn fr w hd se ob none) = mk C T pc pos ms lm li lo inn fr w pos se' ob (some true) := by
    refine ⟨se.add 1, ?_⟩
    rw [stepN1, step_exec hlt]
    simp [-Array.getD_eq_getD_getElem?, M.exec, M.word, mk, h0, ops, M.say]
  obtain ⟨se', e⟩ := e
  rw [e]
  exact ⟨fr.length + 1, Nat.le_refl _, pops (C := C) (T := T) fr _ hf.pops rfl rfl rfl hm⟩

/-! one character, again and again -/
/-- how many of the signs from here pass -/
def tw (f : Nat → Bool) (T : Array Nat) : Nat → Nat → Nat
  | 0, _ => 0
  | n + 1, p => if f (T.getD p 0) then tw f T n (p + 1) + 1 else 0
def Acc (C : Array Nat) (i : Nat) (f : Nat → Bool) (T : Array Nat) : Prop := ∀ p se, ∃ se', accepts C i (T.getD p 0) se = .ok (f (T.getD p 0), se')
theorem run_tw {f : Nat → Bool} {i : Nat} (h : Acc C i f T) : ∀ n p k se, ∃ se', Sre.run C T i n p k se = .ok (k + tw f T n p, se') := by
  intro n
  induction n with
  | zero => intro p k se; exact ⟨se, rfl⟩
  | succ n ih =>
    intro p k se
    obtain ⟨se', e⟩ := h p se
    unfold Sre.run
    rw [e]
    show ∃ se'', (if f (T.getD p 0) = true then Sre.run C T i n (p + 1) (k + 1) se' else pure (k, se')) = _
    unfold tw
    split
    · obtain ⟨s2, e2⟩ := ih (p + 1) (k + 1) se'
      exact ⟨s2, by rw [e2]; congr 2; omega⟩
    · exact ⟨se', rfl⟩
theorem kept_size {m : M} {b : Bool} (h : m.marks.size = 10) : (m.keep b).marks.size ≤ 10 := by
  unfold M.keep
  cases b
  · exact Nat.zero_le _
  · show (m.marks.extract 0 (m.lastmark + 1).toNat).size ≤ 10
    rw [Array.size_extract]; omega
/-- what the frame keeps, put back on marks that still hold g, is g again -/
theorem back_marks {ms ms' : Ms} {lm : Int} {b : Bool} {k : Sre.Kept} (hm : MK ms lm g) (hp : Pre ms' g) (hk : k.whole = b) (hks : k.marks = if b then ms.extract 0 (lm + 1).toNat else #[]) :
    Pre (if k.whole then k.marks ++ ms'.extract k.marks.size ms'.size else ms') g := by
  rw [hk]
  cases b with
  | false => exact hp
  | true =>
    rw [if_pos rfl, hks, if_pos rfl]
    obtain ⟨⟨hs, hl, ha⟩, hlm⟩ := hm
    have hn : (lm + 1).toNat = g.length := by omega
    rw [hn]
    have hsz : (ms.extract 0 g.length).size = g.length := by rw [Array.size_extract]; omega
    refine ⟨?_, hl, fun i hi => ?_⟩
    · rw [Array.size_append, hsz, Array.size_extract, hp.size]; omega
    · rw [Array.getD_eq_getD_getElem?, Array.getElem?_append_left (by rw [hsz]; exact hi), Array.getElem?_extract, ← ha i hi, Array.getD_eq_getD_getElem?]
      rw [if_pos (by omega), Nat.zero_add]
def gb (p pos : Nat) (ob : Bool) (j : Nat) (k : Sre.Kept) : Sre.Frame := { wait := .giveBack, pc := p, pos := pos + j, outermost := ob, count := (j : Int), kept := k }
theorem w_back {w ks : Nat} : w + 1 + ks - (1 + ks) = w := by omega
theorem attempt_eq {m : M} {f : Sre.Frame} {t p : Nat} {ob : Bool} (h : m.weight + 1 + f.kept.marks.size ≤ 16777216) :
    m.attempt f t p ob = { m with frames := f :: m.frames, weight := m.weight + 1 + f.kept.marks.size, pc := t, pos := p, handed := p, outermost := ob } := by
  unfold M.attempt
  rw [if_neg (by omega)]
theorem lose_chain {p skip least q : Nat} {ob : Bool} {fr : List Sre.Frame} {w : Nat} {lo : Array Loop} {inn : Option Nat} {k : Sre.Kept} {ms₀ : Ms} {lm : Int} {li₀ : Int} (hd : d ≤ 1000) (h1 : C.getD (p + 1) 0 = skip) (h2 : C.getD (p + 2) 0 = least) (hf : Fok fr w d) (hK : K lo inn) (hm₀ : MK ms₀ lm g) (hk : k = { lastmark := lm, lastindex := li₀, whole := inn.isSome, marks := if inn.isSome then ms₀.extract 0 (lm + 1).toNat else #[] })
    : ∀ j, least ≤ j → (∀ i, least ≤ i → i ≤ j → R C T K (d + 1) (p + 1 + skip) (pos + i) g q none) → ∀ (ms : Ms) (li : Int) (hd' : Nat) (se : Seen), Pre ms g →
      Res C T g lo inn fr w ((j + 1) * (q + 1)) none (mk C T (p + 1 + skip) (pos + j) ms lm li lo inn (gb p pos ob j k :: fr) (w + 1 + k.marks.size) hd' se ob none) := by
  have ksz : k.marks.size ≤ 10 := by
    rw [hk]
    cases inn with
    | none => exact Nat.zero_le _
    | some => show (ms₀.extract 0 (lm + 1).toNat).size ≤ 10; rw [Array.size_extract, hm₀.1.size]; omega
  intro j
  induction j with
  | zero =>
    intro hl hR ms li hd' se hp
    obtain ⟨n1, hn1, pc', pos', ms', lm', li', hd2, se2, ob2, hp', e⟩ := hR 0 hl (Nat.le_refl _) ms lm li lo inn (gb p pos ob 0 k :: fr) (w + 1 + k.marks.size) hd' se ob ⟨hp, hm₀.2⟩ (hf.push (f := gb p pos ob 0 k) rfl ksz) hK
    refine ⟨n1 + 1, by simp only [Nat.zero_add, Nat.one_mul]; omega, ?_⟩
    show LoseS _ _ _ _ _ _ _ _
    rw [stepN_add, e, stepN1]
    refine ⟨p, pos + 0, _, k.lastmark, k.lastindex, hd2, se2, ob, back_marks (k := k) (b := inn.isSome) hm₀ hp' (by rw [hk]) (by rw [hk]), ?_⟩
    have c : ((0 : Nat) : Int) - 1 < (least : Int) := by omega
    simp only [M.step, M.resume, mk, gb, M.putBack, M.word, h2, M.say, w_back, Option.isSome_none, Bool.false_eq_true, if_false]
    rw [if_pos c]
  | succ j ih =>
    intro hl hR ms li hd' se hp
    obtain ⟨n1, hn1, pc', pos', ms', lm', li', hd2, se2, ob2, hp', e⟩ := hR (j + 1) hl (Nat.le_refl _) ms lm li lo inn (gb p pos ob (j + 1) k :: fr) (w + 1 + k.marks.size) hd' se ob ⟨hp, hm₀.2⟩ (hf.push (f := gb p pos ob (j + 1) k) rfl ksz) hK
    have bm := back_marks (k := k) (b := inn.isSome) hm₀ hp' (by rw [hk]) (by rw [hk])
    have kl : k.lastmark = lm := by rw [hk]
    by_cases hj : least ≤ j
    · have c : ¬ (((j + 1 : Nat) : Int) - 1 < (least : Int)) := by omega
      have c2 : ((j + 1 : Nat) : Int) - 1 = (j : Int) := by omega
      refine (Res.steps (n := (j + 1) * (q + 1)) (n1 + 1) ?_).le (by rw [Nat.succ_mul (j + 1)]; omega)
      rw [stepN_add, e, stepN1]
      have ex : M.step (mk C T pc' pos' ms' lm' li' lo inn (gb p pos ob (j + 1) k :: fr) (w + 1 + k.marks.size) hd2 se2 ob2 (some false)) = mk C T (p + 1 + skip) (pos + j) (if k.whole then k.marks ++ ms'.extract k.marks.size ms'.size else ms') lm k.lastindex lo inn (gb p pos ob j k :: fr) (w + 1 + k.marks.size) (pos + j) se2 ob none := by
        simp only [M.step, M.resume, mk, gb, M.putBack, M.word, h1, h2, M.say, w_back, Option.isSome_none, Bool.false_eq_true, if_false, if_neg c, M.afterRun]
        rw [attempt_eq (by show w + 1 + k.marks.size ≤ _; have := hf.w; omega)]
        simp only [M.frame, c2, kl, M.word, h1, show pos + (j + 1) - 1 = pos + j from rfl]
      rw [ex]
      exact ih hj (fun i a b => hR i a (by omega)) _ _ _ _ bm
    · refine ⟨n1 + 1, by rw [Nat.succ_mul]; omega, ?_⟩
      show LoseS _ _ _ _ _ _ _ _
      rw [stepN_add, e, stepN1]
      refine ⟨p, pos + (j + 1), _, k.lastmark, k.lastindex, hd2, se2, ob, bm, ?_⟩
      have c : ((j + 1 : Nat) : Int) - 1 < (least : Int) := by omega
      simp only [M.step, M.resume, mk, gb, M.putBack, M.word, h2, M.say, w_back, Option.isSome_none, Bool.false_eq_true, if_false]
      rw [if_pos c]
/-- x{least,} and then the rest -/
theorem r_many {p skip least q a N : Nat} {f : Nat → Bool} (hT : T.size ≤ 1000000) (hpos : pos ≤ T.size) (hd : d ≤ 1000) (hlt : p < C.size) (h0 : C.getD p 0 = 24) (h1 : C.getD (p + 1) 0 = skip) (h2 : C.getD (p + 2) 0 = least) (h3 : C.getD (p + 3) 0 = 4294967295) (hacc : Acc C (p + 4) f T)
    (hN : N = tw f T (T.size - pos) pos) (hle : least ≤ N) (hR : R C T K (d + 1) (p + 1 + skip) (pos + N) g a r) (hno : r = none → ∀ i, least ≤ i → i < N → R C T K (d + 1) (p + 1 + skip) (pos + i) g q none) :
    R C T K d p pos g (1 + (a + 1) + (N + 1) * (q + 1 + a)) r := by
  intro ms lm li lo inn fr w hd' se ob hm hf hk
  have twle : ∀ n p, tw f T n p ≤ n := by
    intro n
    induction n with
    | zero => intro p; exact Nat.le_refl _
    | succ n ih => intro p; unfold tw; split; exact Nat.succ_le_succ (ih _); omega
  have room : N ≤ T.size - pos := hN ▸ twle _ _
  obtain ⟨k, hkd⟩ : ∃ k : Sre.Kept, k = { lastmark := lm, lastindex := li, whole := inn.isSome, marks := if inn.isSome then ms.extract 0 (lm + 1).toNat else #[] } := ⟨_, rfl⟩
  have ksz : k.marks.size ≤ 10 := by
    rw [hkd]
    cases inn with
    | none => exact Nat.zero_le _
    | some => show (ms.extract 0 (lm + 1).toNat).size ≤ 10; rw [Array.size_extract, hm.1.size]; omega
  have e : ∃ se', stepN 1 (mk C T p pos ms lm li lo inn fr w hd' se ob none) = mk C T (p + 1 + skip) (pos + N) ms lm li lo inn (gb p pos ob N k :: fr) (w + 1 + k.marks.size) (pos + N) se' ob none := by
    obtain ⟨se', er⟩ := run_tw hacc (T.size - pos) pos 0 ((se.add 24).add (C.getD (p + 4) 0))
    rw [Nat.zero_add, ← hN] at er
    refine ⟨se', ?_⟩
    rw [stepN1, step_exec hlt]
    have hroom : ((T.size : Int) - (pos : Int)).toNat = T.size - pos := by omega
    have hmin : min 4294967295 (T.size - pos) = T.size - pos := by omega
    have c1 : ¬ ((least : Int) > (T.size : Int) - (pos : Int)) := by omega
    simp only [M.exec, M.word, mk, Nat.add_zero, h0, h1, h2, h3, show ops[24]? = some Op.REPEAT_ONE from rfl, if_neg c1, Bool.false_eq_true, if_false, hroom, hmin, er, M.afterRun]
    rw [if_neg (by omega)]
    rw [attempt_eq (by show w + 1 + _ ≤ _; have := hf.w; have z : (M.keep (mk C T p (pos + N) ms lm li lo inn fr w hd' se' ob none) inn.isSome).marks.size ≤ 10 := kept_size hm.1.size; exact Nat.le_trans (Nat.add_le_add_left z _) (by omega))]
    simp only [M.frame, M.keep, hkd, gb, M.word, h1]
  obtain ⟨se', e⟩ := e
  cases r with
  | some g' =>
    refine (Res.steps (n := a) 1 ?_).le (by omega)
    rw [e]
    exact hR ms lm li lo inn _ _ _ _ _ hm (hf.push (f := gb p pos ob N k) rfl ksz) hk
  | none =>
    refine (Res.steps (n := (N + 1) * (max q a + 1)) 1 ?_).le (by have : (N + 1) * (max q a + 1) ≤ (N + 1) * (q + 1 + a) := Nat.mul_le_mul_left _ (by omega); omega)
    rw [e]
    refine lose_chain (q := max q a) hd h1 h2 hf hk hm hkd N hle (fun i hi hi' => ?_) ms li (pos + N) se' hm.1
    by_cases q' : i = N
    · subst q'; exact hR.le (by omega)
    · exact (hno rfl i hi (by omega)).le (by omega)
theorem r_many_no {p least : Nat} {f : Nat → Bool} (hlt : p < C.size) (h0 : C.getD p 0 = 24) (h2 : C.getD (p + 2) 0 = least) (h3 : C.getD (p + 3) 0 = 4294967295) (hacc : Acc C (p + 4) f T) (hT : T.size ≤ 1000000) (hpos : pos ≤ T.size)
    (hle : tw f T (T.size - pos) pos < least) : R C T K d p pos g 1 none := by
  intro ms lm li lo inn fr w hd' se ob hm hf hk
  refine Res.steps (n := 0) 1 ?_
  have e : ∃ se', stepN 1 (mk C T p pos ms lm li lo inn fr w hd' se ob none) = mk C T p pos ms lm li lo inn fr w hd' se' ob (some false) := by
    obtain ⟨se', er⟩ := run_tw hacc (T.size - pos) pos 0 ((se.add 24).add (C.getD (p + 4) 0))
    rw [Nat.zero_add] at er
    rw [stepN1, step_exec hlt]
    have hroom : ((T.size : Int) - (pos : Int)).toNat = T.size - pos := by omega
    have hmin : min 4294967295 (T.size - pos) = T.size - pos := by omega
    by_cases c1 : (least : Int) > (T.size : Int) - (pos : Int)
    · refine ⟨se.add 24, ?_⟩
      simp only [M.exec, M.word, mk, Nat.add_zero, h0, h2, h3, show ops[24]? = some Op.REPEAT_ONE from rfl, if_pos c1, M.say]
    · refine ⟨se', ?_⟩
      simp only [M.exec, M.word, mk, Nat.add_zero, h0, h2, h3, show ops[24]? = some Op.REPEAT_ONE from rfl, if_neg c1, Bool.false_eq_true, if_false, hroom, hmin, er, M.say]
      rw [if_pos hle]
  obtain ⟨se', e⟩ := e
  rw [e]
  exact lose_now hm.1
end
end Mine
end
section
open PySem
set_option maxRecDepth 100000
set_option linter.unusedVariables false
set_option linter.unusedSimpArgs false
namespace Mine
open PySem.Sre
def K0 : Ctx := fun _ inn => inn = none
def KB (p : Nat) (K : Ctx) : Ctx := fun lo inn => ∃ i l, inn = some i ∧ lo[i]? = some l ∧ l.pc = p ∧ l.count = 0 ∧ K lo l.outer
def PushK (K : Ctx) : Prop := ∀ lo inn x, K lo inn → K (lo.push x) inn
theorem pushK0 : PushK K0 := fun _ _ _ h => h
theorem pushKB {p : Nat} {K : Ctx} (h : PushK K) : PushK (KB p K) := fun lo inn x ⟨i, l, a, b, c, d, e⟩ => ⟨i, l, a, by
  obtain ⟨hi, _⟩ := Array.getElem?_eq_some_iff.mp b
  rw [Array.getElem?_push, if_neg (by omega)]; exact b, c, d, h _ _ _ e⟩
section
variable {C T : Array Nat} {K : Ctx} {d pos : Nat} {g : List (Option Nat)} {n : Nat} {r : Option (List (Option Nat))}
theorem loopAt_eq {m : M} {i : Nat} {l : Loop} (h : m.loops[i]? = some l) : m.loopAt i = l := by
  unfold M.loopAt
  rw [Array.getD_eq_getD_getElem?, h]; rfl
theorem push_at (lo : Array Loop) (l : Loop) : (lo.push l)[lo.size]? = some l := by rw [Array.getElem?_push, if_pos rfl]
theorem modify_push (lo : Array Loop) (l : Loop) (f : Loop → Loop) : (lo.push l).modify lo.size f = lo.push (f l) := by
  apply Array.ext_getElem?
  intro i
  rw [Array.getElem?_modify, Array.getElem?_push, Array.getElem?_push]
  by_cases h : i = lo.size
  · subst h; simp
  · rw [if_neg (fun e => h e.symm), if_neg h, if_neg h]
/-- the group has had its turn: on to the rest -/
theorem r_until {p u : Nat} (hd : d ≤ 1000) (hlt : u < C.size) (h0 : C.getD u 0 = 18) (h2 : C.getD (p + 2) 0 = 0) (h3 : C.getD (p + 3) 0 = 1) (h : R C T K (d + 1) (u + 1) pos g n r) : R C T (KB p K) d u pos g (n + 2) r := by
  intro ms lm li lo inn fr w hd' se ob hm hf hk
  obtain ⟨i, l, rfl, hl, rfl, hc, hK⟩ := hk
  obtain ⟨f, hfd⟩ : ∃ f : Sre.Frame, f = { wait := .maxTail, pc := u + 1, pos := pos, outermost := ob, loop := i, count := 1, kept := { lastmark := lm, lastindex := li, whole := false, marks := #[] } } := ⟨_, rfl⟩
  have e : ∃ se', stepN 1 (mk C T u pos ms lm li lo (some i) fr w hd' se ob none) = mk C T (u + 1) pos ms lm li lo l.outer (f :: fr) (w + 1) pos se' ob none := by
    refine ⟨se.add 18, ?_⟩
    rw [stepN1, step_exec hlt]
    simp only [M.exec, M.word, mk, Nat.add_zero, h0, show ops[18]? = some Op.MAX_UNTIL from rfl, M.until_, loopAt_eq (m := mk C T (u + 1) pos ms lm li lo (some i) fr w hd' (se.add 18) ob none) hl, M.loopAt, Array.getD_eq_getD_getElem?, hl, Option.getD_some, hc]
    have z2 : C[l.pc + 2]?.getD 0 = 0 := by rw [← Array.getD_eq_getD_getElem?]; exact h2
    have z3 : C[l.pc + 3]?.getD 0 = 1 := by rw [← Array.getD_eq_getD_getElem?]; exact h3
    simp only [z2, z3]
    rw [if_neg (by decide), if_neg (by decide), if_neg (by simp [Sre.maxRepeat])]
    simp only [M.afterLoop, M.loopAt, Array.getD_eq_getD_getElem?, hl, Option.getD_some]
    rw [attempt_eq (by show w + 1 + _ ≤ _; have := hf.w; simp [M.keep]; omega)]
    simp only [M.frame, M.keep, hfd]
    rfl
  obtain ⟨se', e⟩ := e
  have hR := h ms lm li lo l.outer (f :: fr) (w + 1) pos se' ob hm (by have := hf.push (f := f) (by rw [hfd]; rfl) (by rw [hfd]; exact Nat.zero_le _); rw [hfd] at this ⊢; exact this) hK
  cases r with
  | some g' => exact (Res.steps (n := n) 1 (by rw [e]; exact hR)).le (by omega)
  | none =>
    obtain ⟨n1, hn1, pc', pos', ms', lm', li', hd2, se2, ob2, hp', e2⟩ := hR
    refine ⟨1 + (n1 + 1), by omega, ?_⟩
    show LoseS _ _ _ _ _ _ _ _
    rw [stepN_add, e, stepN_add, e2, stepN1]
    refine ⟨u + 1, pos, ms', lm', li', hd2, se2, ob, hp', ?_⟩
    simp only [M.step, M.resume, mk, hfd, M.putBack, M.say, Option.isSome_none, Bool.false_eq_true, if_false]
    congr 1
/-- (?:body)? and the rest -/
theorem r_group {p s nb nt : Nat} {rb rt : Option (List (Option Nat))} (hd : d ≤ 1000) (hK : PushK K) (hlt : p < C.size) (hlu : p + 1 + s < C.size) (h0 : C.getD p 0 = 23) (h1 : C.getD (p + 1) 0 = s) (h2 : C.getD (p + 2) 0 = 0) (h3 : C.getD (p + 3) 0 = 1) (hu : C.getD (p + 1 + s) 0 = 18)
    (hb : R C T (KB p K) (d + 2) (p + 4) pos g nb rb) (ht : rb = none → R C T K (d + 2) (p + 1 + s + 1) pos g nt rt) (hr : r = if rb.isSome then rb else rt) : R C T K d p pos g (nb + nt + 6) r := by
  intro ms lm li lo inn fr w hd' se ob hm hf hk
  obtain ⟨f1, hf1⟩ : ∃ f : Sre.Frame, f = { wait := .closeLoop, pc := p, pos := pos, outermost := ob, loop := lo.size } := ⟨_, rfl⟩
  obtain ⟨k2, hk2⟩ : ∃ k : Sre.Kept, k = { lastmark := lm, lastindex := li, whole := true, marks := ms.extract 0 (lm + 1).toNat } := ⟨_, rfl⟩
  obtain ⟨f2, hf2⟩ : ∃ f : Sre.Frame, f = { wait := .maxMore, pc := p + 1 + s + 1, pos := pos, outermost := ob, loop := lo.size, count := 0, kept := k2, began := none } := ⟨_, rfl⟩
  obtain ⟨f3, hf3⟩ : ∃ f : Sre.Frame, f = { wait := .maxTail, pc := p + 1 + s + 1, pos := pos, outermost := ob, loop := lo.size, count := 0, kept := { lastmark := lm, lastindex := k2.lastindex, whole := false, marks := #[] } } := ⟨_, rfl⟩
  have ksz : k2.marks.size ≤ 10 := by rw [hk2]; show (ms.extract 0 (lm + 1).toNat).size ≤ 10; rw [Array.size_extract, hm.1.size]; omega
  have hw := hf.w
  have F1 : Fok (f1 :: fr) (w + 1) (d + 1) := by have := hf.push (f := f1) (by rw [hf1]; rfl) (by rw [hf1]; exact Nat.zero_le _); rw [hf1] at this ⊢; exact this
  have F2 : Fok (f2 :: f1 :: fr) (w + 1 + 1 + k2.marks.size) (d + 2) := by have := F1.push (f := f2) (by rw [hf2]; rfl) (by rw [hf2]; exact ksz); rw [hf2] at this ⊢; exact this
  have F3 : Fok (f3 :: f1 :: fr) (w + 1 + 1) (d + 2) := by have := F1.push (f := f3) (by rw [hf3]; rfl) (by rw [hf3]; exact Nat.zero_le _); rw [hf3] at this ⊢; exact this
  -- REPEAT
  have e1 : ∃ se', stepN 1 (mk C T p pos ms lm li lo inn fr w hd' se ob none) = mk C T (p + 1 + s) pos ms lm li (lo.push { pc := p, outer := inn }) (some lo.size) (f1 :: fr) (w + 1) pos se' ob none := by
    refine ⟨se.add 23, ?_⟩
    rw [stepN1, step_exec hlt]
    simp only [M.exec, M.word, mk, Nat.add_zero, h0, h1, show ops[23]? = some Op.REPEAT from rfl]
    rw [attempt_eq (by show w + 1 + _ ≤ _; simp [M.frame]; omega)]
    simp only [M.frame, hf1]
    rfl
  obtain ⟨se1, e1⟩ := e1
  have e2 : ∃ se', stepN 1 (mk C T (p + 1 + s) pos ms lm li (lo.push { pc := p, outer := inn }) (some lo.size) (f1 :: fr) (w + 1) pos se1 ob none) = mk C T (p + 4) pos ms lm li (lo.push { pc := p, count := 0, began := some pos, outer := inn }) (some lo.size) (f2 :: f1 :: fr) (w + 1 + 1 + k2.marks.size) pos se' ob none := by
    refine ⟨se1.add 18, ?_⟩
    rw [stepN1, step_exec hlu]
    have z2 : C[p + 2]?.getD 0 = 0 := by rw [← Array.getD_eq_getD_getElem?]; exact h2
    have z3 : C[p + 3]?.getD 0 = 1 := by rw [← Array.getD_eq_getD_getElem?]; exact h3
    simp only [M.exec, M.word, mk, Nat.add_zero, hu, show ops[18]? = some Op.MAX_UNTIL from rfl, M.until_, M.loopAt, Array.getD_eq_getD_getElem?, push_at, Option.getD_some, z2, z3]
    rw [if_neg (by decide), if_neg (by decide), if_pos (by simp)]
    simp only [M.round, M.loopAt, M.setLoop, Array.getD_eq_getD_getElem?, push_at, Option.getD_some, modify_push]
    rw [attempt_eq (by show w + 1 + 1 + (M.keep _ true).marks.size ≤ _; exact Nat.le_trans (Nat.add_le_add_left (kept_size hm.1.size) _) (by omega))]
    simp only [M.frame, M.keep, hf2, hk2, if_true]
    rfl
  obtain ⟨se2, e2⟩ := e2
  have hB := hb ms lm li (lo.push { pc := p, count := 0, began := some pos, outer := inn }) (some lo.size) (f2 :: f1 :: fr) (w + 1 + 1 + k2.marks.size) pos se2 ob hm F2 ⟨lo.size, _, rfl, push_at _ _, rfl, rfl, hK _ _ _ hk⟩
  cases rb with
  | some g' =>
    obtain rfl : r = some g' := hr
    refine (Res.steps (n := nb) 2 ?_).le (by omega)
    rw [show 2 = 1 + 1 from rfl, stepN_add, e1, e2]
    exact hB
  | none =>
    obtain rfl : r = rt := hr
    obtain ⟨n1, hn1, pc', pos', ms', lm', li', hd3, se3, ob3, hp', e3⟩ := hB
    have bm := back_marks (k := k2) (b := true) hm hp' (by rw [hk2]) (by rw [hk2]; rfl)
    have kl : k2.lastmark = lm := by rw [hk2]
    have e4 : M.step (mk C T pc' pos' ms' lm' li' (lo.push { pc := p, count := 0, began := some pos, outer := inn }) (some lo.size) (f2 :: f1 :: fr) (w + 1 + 1 + k2.marks.size) hd3 se3 ob3 (some false)) = mk C T (p + 1 + s + 1) pos (if k2.whole then k2.marks ++ ms'.extract k2.marks.size ms'.size else ms') lm k2.lastindex (lo.push { pc := p, count := -1, began := none, outer := inn }) inn (f3 :: f1 :: fr) (w + 1 + 1) pos se3 ob none := by
      simp only [M.step, M.resume, mk, hf2, M.putBack, M.word, M.say, w_back, Option.isSome_none, Bool.false_eq_true, if_false, M.setLoop, modify_push, M.afterLoop, M.loopAt, Array.getD_eq_getD_getElem?, push_at, Option.getD_some, kl]
      rw [attempt_eq (by show w + 1 + 1 + (M.keep _ false).marks.size ≤ _; simp [M.keep]; omega)]
      simp only [M.frame, M.keep, hf3, Bool.false_eq_true, if_false]
      rfl
    have hTl := ht rfl (if k2.whole then k2.marks ++ ms'.extract k2.marks.size ms'.size else ms') lm k2.lastindex (lo.push { pc := p, count := -1, began := none, outer := inn }) inn (f3 :: f1 :: fr) (w + 1 + 1) pos se3 ob ⟨bm, hm.2⟩ F3 (hK _ _ _ hk)
    have pre : stepN (1 + (1 + (n1 + 1))) (mk C T p pos ms lm li lo inn fr w hd' se ob none) = mk C T (p + 1 + s + 1) pos (if k2.whole then k2.marks ++ ms'.extract k2.marks.size ms'.size else ms') lm k2.lastindex (lo.push { pc := p, count := -1, began := none, outer := inn }) inn (f3 :: f1 :: fr) (w + 1 + 1) pos se3 ob none := by
      rw [stepN_add, e1, stepN_add, e2, stepN_add, e3, stepN1, e4]
    cases r with
    | some g' => exact (Res.steps (n := nt) (1 + (1 + (n1 + 1))) (by rw [pre]; exact hTl)).le (by omega)
    | none =>
      obtain ⟨n2, hn2, pc4, pos4, ms4, lm4, li4, hd4, se4, ob4, hp4, e5⟩ := hTl
      refine ⟨(1 + (1 + (n1 + 1))) + (n2 + (1 + 1)), by omega, ?_⟩
      show LoseS _ _ _ _ _ _ _ _
      rw [stepN_add, pre, stepN_add, e5]
      show LoseS C T g lo inn fr w (M.step (M.step _))
      have e6 : M.step (mk C T pc4 pos4 ms4 lm4 li4 (lo.push { pc := p, count := -1, began := none, outer := inn }) inn (f3 :: f1 :: fr) (w + 1 + 1) hd4 se4 ob4 (some false)) = mk C T (p + 1 + s + 1) pos ms4 lm4 li4 (lo.push { pc := p, count := -1, began := none, outer := inn }) (some lo.size) (f1 :: fr) (w + 1) hd4 se4 ob (some false) := by
        simp only [M.step, M.resume, mk, hf3, M.say, Option.isSome_none, Bool.false_eq_true, if_false]
        congr 1
      rw [e6]
      refine ⟨p, pos, ms4, lm4, li4, hd4, se4, ob, hp4, ?_⟩
      simp only [M.step, M.resume, mk, hf1, M.say, Option.isSome_none, Bool.false_eq_true, if_false, M.loopAt, Array.getD_eq_getD_getElem?, push_at, Option.getD_some, Array.pop_push]
      congr 1
end
end Mine
end
section
open PySem
set_option maxRecDepth 100000
set_option linter.unusedVariables false
set_option linter.unusedSimpArgs false
namespace Mine
open PySem.Sre
abbrev G := List (Option Nat)
def dg (c : Nat) : Bool := 48 ≤ c && c ≤ 57
def cl (c : Nat) : Bool := dg c || (97 ≤ c && c ≤ 122) || (65 ≤ c && c ≤ 90) || c == 46 || c == 45
def Ascii (T : Array Nat) : Prop := ∀ p, T.getD p 0 < 128 ∧ T.getD p 0 ≠ 10
theorem dec_dg : ∀ c, c < 128 → Unicode.isDecimal c = dg c := by decide +kernel
section
variable {C T : Array Nat}
theorem acc_dg {i : Nat} (hA : Ascii T) (hs : 2 ≤ C.size) (h0 : C.getD i 0 = 13) (h1 : C.getD (i + 2) 0 = 8) (h2 : C.getD (i + 3) 0 = 10) (h3 : C.getD (i + 4) 0 = 0) : Acc C i dg T := by
  intro p se
  have hc := dec_dg _ (hA p).1
  generalize T.getD p 0 = c at hc
  obtain ⟨n, hn⟩ : ∃ n, C.size = n + 2 := ⟨C.size - 2, by omega⟩
  unfold accepts
  simp only [h0, show ops[13]? = some Op.IN from rfl, hn]
  unfold inSet
  simp only [Nat.add_zero, h1, show ops[8]? = some Op.CATEGORY from rfl, show i + 2 + 1 = i + 3 from rfl, h2, category, show 10 / 2 = 5 from rfl, hc]
  cases dg c
  · show ∃ se', (inSet C c (n + 1) (i + 2 + 2) true _) = _
    unfold inSet
    simp only [Nat.add_zero, show i + 2 + 2 = i + 4 from rfl, h3, show ops[0]? = some Op.FAILURE from rfl]
    exact ⟨_, rfl⟩
  · exact ⟨_, rfl⟩
def cwd (c : Nat) : Bool := (([0, 67067904, 134217726, 134217726, 0, 0, 0, 0] : List Nat).getD (c / 32) 0).testBit (c % 32)
theorem cwd_cl : ∀ c, c < 128 → cwd c = cl c := by decide +kernel
theorem acc_cl {i : Nat} (hA : Ascii T) (hs : 2 ≤ C.size) (h0 : C.getD i 0 = 13) (h1 : C.getD (i + 2) 0 = 9) (hw : ∀ j, j < 8 → C.getD (i + 3 + j) 0 = ([0, 67067904, 134217726, 134217726, 0, 0, 0, 0] : List Nat).getD j 0) (h3 : C.getD (i + 11) 0 = 0) : Acc C i cl T := by
  intro p se
  have hlt := (hA p).1
  have hc := cwd_cl _ hlt
  generalize T.getD p 0 = c at hc hlt
  obtain ⟨n, hn⟩ : ∃ n, C.size = n + 2 := ⟨C.size - 2, by omega⟩
  have hword : C.getD (i + 2 + (1 + c / 32)) 0 = ([0, 67067904, 134217726, 134217726, 0, 0, 0, 0] : List Nat).getD (c / 32) 0 := by
    rw [← hw (c / 32) (by omega)]
    congr 1; omega
  unfold accepts
  simp only [h0, show ops[13]? = some Op.IN from rfl, hn]
  unfold inSet
  simp only [Nat.add_zero, h1, show ops[9]? = some Op.CHARSET from rfl, hword]
  have e : (decide (c < 256) && (([0, 67067904, 134217726, 134217726, 0, 0, 0, 0] : List Nat).getD (c / 32) 0).testBit (c % 32)) = cl c := by
    rw [decide_eq_true (show c < 256 by omega), Bool.true_and]
    exact hc
  rw [e]
  cases cl c
  · show ∃ se', (inSet C c (n + 1) (i + 2 + 9) true _) = _
    unfold inSet
    simp only [Nat.add_zero, show i + 2 + 9 = i + 11 from rfl, h3, show ops[0]? = some Op.FAILURE from rfl]
    exact ⟨_, rfl⟩
  · exact ⟨_, rfl⟩

/-! the text as a list -/
theorem drop_cons {p : Nat} (h : p < T.size) : T.toList.drop p = T.getD p 0 :: T.toList.drop (p + 1) := by
  rw [List.drop_eq_getElem_cons (by simpa using h)]
  congr 1
  simp [h]
theorem drop_nil {p : Nat} (h : T.size ≤ p) : T.toList.drop p = [] := List.drop_eq_nil_of_le (by simpa using h)
theorem tw_list (f : Nat → Bool) : ∀ n p, n = T.size - p → tw f T n p = ((T.toList.drop p).takeWhile f).length := by
  intro n
  induction n with
  | zero => intro p h; rw [drop_nil (by omega)]; rfl
  | succ n ih =>
    intro p h
    rw [drop_cons (by omega), List.takeWhile_cons]
    unfold tw
    split
    · rw [ih (p + 1) (by omega)]; rfl
    · rfl
def sBody (ch a least : Nat) (f : Nat → Bool) (next : Nat → List Nat → G → Option G) (p : Nat) (suf : List Nat) (g : G) : Option G :=
  match suf with
  | c :: rest => if c = ch ∧ least ≤ (rest.takeWhile f).length then next (p + 1 + (rest.takeWhile f).length) (rest.drop (rest.takeWhile f).length) (ext (ext g a (p + 1)) (a + 1) (p + 1 + (rest.takeWhile f).length)) else none
  | [] => none
def sGrp (ch a least : Nat) (f : Nat → Bool) (nextB nextT : Nat → List Nat → G → Option G) (p : Nat) (suf : List Nat) (g : G) : Option G :=
  match suf with
  | c :: rest => if c = ch then sBody ch a least f nextB p suf g else nextT p suf g
  | [] => nextT p suf g
/-- a point of the code that ends as a reading of the rest says -/
def Pt (C T : Array Nat) (K : Ctx) (d pc len n : Nat) (s : Nat → List Nat → G → Option G) : Prop := ∀ pos g, pos ≤ T.size → g.length ≤ len → R C T K d pc pos g n (s pos (T.toList.drop pos) g)
theorem tw_in {f : Nat → Bool} : ∀ {l : List Nat} {i : Nat}, i < (l.takeWhile f).length → ∃ c rest, l.drop i = c :: rest ∧ f c = true
  | [], i, h => by simp at h
  | c :: l, i, h => by
    rw [List.takeWhile_cons] at h
    split at h
    · rename_i hc
      cases i with
      | zero => exact ⟨c, l, rfl, hc⟩
      | succ i => exact tw_in (l := l) (by simpa using h)
    · simp at h
theorem pt_body {K : Ctx} {d p a ch skip least n : Nat} {f : Nat → Bool} {next : Nat → List Nat → G → Option G} (hT : T.size ≤ 1000000) (hd : d ≤ 900) (ha : a + 1 < 10) (hA : Ascii T)
    (hs : p + 7 + skip < C.size) (h0 : C.getD p 0 = 16) (h1 : C.getD (p + 1) 0 = ch) (h2 : C.getD (p + 2) 0 = 17) (h3 : C.getD (p + 3) 0 = a) (h4 : C.getD (p + 4) 0 = 24) (h5 : C.getD (p + 5) 0 = skip) (h6 : C.getD (p + 6) 0 = least) (h7 : C.getD (p + 7) 0 = 4294967295)
    (hacc : Acc C (p + 8) f T) (h8 : C.getD (p + 5 + skip) 0 = 17) (h9 : C.getD (p + 6 + skip) 0 = a + 1) (hn : Pt C T K (d + 1) (p + 7 + skip) (a + 2) n next) (hno : ∀ q c suf g, f c = true → next q (c :: suf) g = none) :
    Pt C T K d p a ((T.size + 2) * (2 * n + 6) + 10) (sBody ch a least f next) := by
  intro pos g hp hg
  by_cases hlt : pos < T.size
  · rw [drop_cons hlt]
    by_cases hc : T.getD pos 0 = ch
    · obtain ⟨N, hN⟩ : ∃ N, N = tw f T (T.size - (pos + 1)) (pos + 1) := ⟨_, rfl⟩
      have hNl : ((T.toList.drop (pos + 1)).takeWhile f).length = N := by rw [hN, tw_list f _ _ rfl]
      have hNb : N ≤ T.size - (pos + 1) := by
        rw [← hNl]
        refine Nat.le_trans (List.takeWhile_sublist f).length_le ?_
        simp
      by_cases hle : least ≤ N
      · show R _ _ _ _ _ _ _ _ (if _ then _ else _)
        rw [if_pos ⟨hc, by rw [hNl]; exact hle⟩, hNl, List.drop_drop]
        have k1 : ∀ i, i ≤ N → R C T K (d + 1) (p + 4 + 1 + skip) (pos + 1 + i) (ext g a (pos + 1)) (n + 1) (next (pos + 1 + i) (T.toList.drop (pos + 1 + i)) (ext (ext g a (pos + 1)) (a + 1) (pos + 1 + i))) := fun i hi => by
          refine r_mark (i := a + 1) (by omega) (by rw [show p + 4 + 1 + skip = p + 5 + skip from rfl]; exact h8) (by rw [show p + 4 + 1 + skip + 1 = p + 6 + skip by omega]; exact h9) (by rw [ext_len hg]; omega) ha ?_
          rw [show p + 4 + 1 + skip + 2 = p + 7 + skip by omega]
          exact hn _ _ (by omega) (by rw [ext_len (by rw [ext_len hg]; omega)]; omega)
        refine (r_literal (by omega) h0 h1 hlt hc (r_mark (i := a) (by omega) h2 h3 hg (by omega) (r_many (q := n + 1) (a := n + 1) (least := least) hT (by omega) (by omega) (by omega) h4 h5 h6 h7 hacc hN hle (k1 N (Nat.le_refl _)) fun e i hi hi' => ?_))).le ?_
        · have := k1 i (by omega)
          obtain ⟨c, rest, e1, e2⟩ := tw_in (f := f) (l := T.toList.drop (pos + 1)) (i := i) (by rw [hNl]; exact hi')
          rw [List.drop_drop] at e1
          rw [e1, hno _ _ _ _ e2] at this
          exact this
        · have e : (N + 1) * (n + 1 + 1 + (n + 1)) ≤ (T.size + 1) * (2 * n + 6) := Nat.mul_le_mul (by omega) (by omega)
          have e3 : (T.size + 2) * (2 * n + 6) = (T.size + 1) * (2 * n + 6) + (2 * n + 6) := by rw [Nat.succ_mul]
          omega
      · show R _ _ _ _ _ _ _ _ (if _ then _ else _)
        rw [if_neg (fun q => hle (by rw [← hNl]; exact q.2))]
        refine (r_literal (by omega) h0 h1 hlt hc (r_mark (i := a) (by omega) h2 h3 hg (by omega) (r_many_no (least := least) (by omega) h4 h6 h7 hacc hT (by omega) (by rw [← hN]; omega)))).le (by omega)
    · show R _ _ _ _ _ _ _ _ (if _ then _ else _)
      rw [if_neg (fun q => hc q.1)]
      exact (r_literal_no (by omega) h0 h1 fun _ => hc).le (by omega)
  · rw [drop_nil (by omega)]
    exact (r_literal_no (by omega) h0 h1 fun q => absurd q hlt).le (by omega)
theorem pt_group {K : Ctx} {d p a ch s nb nt least : Nat} {f : Nat → Bool} {nextB nextT : Nat → List Nat → G → Option G} (hd : d ≤ 900) (hK : PushK K) (hlu : p + 1 + s < C.size) (h0 : C.getD p 0 = 23) (h1 : C.getD (p + 1) 0 = s) (h2 : C.getD (p + 2) 0 = 0) (h3 : C.getD (p + 3) 0 = 1) (hu : C.getD (p + 1 + s) 0 = 18)
    (hb : Pt C T (KB p K) (d + 2) (p + 4) a nb (sBody ch a least f nextB)) (ht : Pt C T K (d + 2) (p + 1 + s + 1) a nt nextT) (hno : ∀ q suf g, nextT q (ch :: suf) g = none) : Pt C T K d p a (nb + nt + 6) (sGrp ch a least f nextB nextT) := by
  intro pos g hp hg
  refine r_group (by omega) hK (by omega) hlu h0 h1 h2 h3 hu (hb pos g hp hg) (fun _ => ht pos g hp hg) ?_
  cases e : T.toList.drop pos with
  | nil => rfl
  | cons c rest =>
    show (if c = ch then _ else _) = _
    by_cases hc : c = ch
    · rw [if_pos hc, hc, hno]
      cases sBody ch a least f nextB pos (ch :: rest) g <;> rfl
    · rw [if_neg hc]
      have e2 : sBody ch a least f nextB pos (c :: rest) g = none := if_neg (fun q => hc q.1)
      rw [e2]
      rfl
theorem pt_until {K : Ctx} {d p u len n : Nat} {s : Nat → List Nat → G → Option G} (hd : d ≤ 900) (hlt : u < C.size) (h0 : C.getD u 0 = 18) (h2 : C.getD (p + 2) 0 = 0) (h3 : C.getD (p + 3) 0 = 1) (h : Pt C T K (d + 1) (u + 1) len n s) : Pt C T (KB p K) d u len (n + 2) s :=
  fun pos g hp hg => r_until (by omega) hlt h0 h2 h3 (h pos g hp hg)
def sEnd (p : Nat) (suf : List Nat) (g : G) : Option G := match suf with
  | [] => some g
  | _ => none
theorem pt_end {K : Ctx} {d p len : Nat} (hA : Ascii T) (hlt : p + 2 < C.size) (h0 : C.getD p 0 = 6) (h1 : C.getD (p + 1) 0 = 5) (h2 : C.getD (p + 2) 0 = 1) : Pt C T K d p len (d + 3) sEnd := by
  intro pos g hp hg
  by_cases h : pos < T.size
  · rw [drop_cons h]
    exact (r_end_no (by omega) h0 h1 h (hA _).2).le (by omega)
  · rw [drop_nil (by omega)]
    exact r_end (g' := []) (by omega) h0 h1 (by omega) (r_success hlt h2)
theorem Pt.le {K : Ctx} {d p len n n' len' : Nat} {s : Nat → List Nat → G → Option G} (h : Pt C T K d p len n s) (hn : n ≤ n') (hl : len' ≤ len) : Pt C T K d p len' n' s := fun pos g hp hg => (h pos g hp (by omega)).le hn
end
end Mine
end
section
open PySem
set_option maxRecDepth 100000
set_option linter.unusedVariables false
set_option linter.unusedSimpArgs false
namespace Mine
open PySem.Sre
def code3 : Array Nat := #[14, 4, 0, 5, 4294967295, 6, 0, 17, 0, 24, 9, 1, 4294967295, 13, 4, 8, 10, 0, 1, 17, 1, 16, 46, 17, 2, 24, 9, 1, 4294967295, 13, 4, 8, 10, 0, 1, 17, 3, 16, 46, 17, 4, 24, 9, 1, 4294967295, 13, 4, 8, 10, 0, 1, 17, 5, 23, 26, 0, 1, 16, 45, 17, 6, 24, 16, 1, 4294967295, 13, 11, 9, 0, 67067904, 134217726, 134217726, 0, 0, 0, 0, 0, 1, 17, 7, 18, 23, 26, 0, 1, 16, 43, 17, 8, 24, 16, 1, 4294967295, 13, 11, 9, 0, 67067904, 134217726, 134217726, 0, 0, 0, 0, 0, 1, 17, 9, 18, 6, 5, 1]
def code4 : Array Nat := #[14, 4, 0, 1, 4294967295, 6, 0, 17, 0, 24, 9, 1, 4294967295, 13, 4, 8, 10, 0, 1, 17, 1, 23, 40, 0, 1, 16, 46, 17, 2, 24, 9, 1, 4294967295, 13, 4, 8, 10, 0, 1, 17, 3, 23, 19, 0, 1, 16, 46, 17, 4, 24, 9, 1, 4294967295, 13, 4, 8, 10, 0, 1, 17, 5, 18, 18, 23, 26, 0, 1, 16, 45, 17, 6, 24, 16, 0, 4294967295, 13, 11, 9, 0, 67067904, 134217726, 134217726, 0, 0, 0, 0, 0, 1, 17, 7, 18, 23, 26, 0, 1, 16, 43, 17, 8, 24, 16, 0, 4294967295, 13, 11, 9, 0, 67067904, 134217726, 134217726, 0, 0, 0, 0, 0, 1, 17, 9, 18, 6, 5, 1]
theorem size3 : code3.size = 112 := rfl
theorem size4 : code4.size = 122 := rfl
theorem dg_cl {c : Nat} (h : dg c = true) : cl c = true := by unfold cl; rw [h]; rfl
theorem cl_43 {c : Nat} (h : cl c = true) : c ≠ 43 := by rintro rfl; revert h; decide
theorem dg_45 {c : Nat} (h : dg c = true) : c ≠ 45 := by rintro rfl; revert h; decide
theorem dg_46 {c : Nat} (h : dg c = true) : c ≠ 46 := by rintro rfl; revert h; decide
theorem grp_ne {ch a least : Nat} {f : Nat → Bool} {nB nT : Nat → List Nat → G → Option G} {p c : Nat} {suf : List Nat} {g : G} (h : c ≠ ch) : sGrp ch a least f nB nT p (c :: suf) g = nT p (c :: suf) g := if_neg h
def sB4 := sGrp 43 8 0 cl sEnd sEnd
def sP4 := sGrp 45 6 0 cl sB4 sB4
def sZ4 := sGrp 46 4 1 dg sP4 sP4
def sY4 := sGrp 46 2 1 dg sZ4 sP4
def sB3 := sGrp 43 8 1 cl sEnd sEnd
def sP3 := sGrp 45 6 1 cl sB3 sB3
def sZ3 := sBody 46 4 1 dg sP3
def sY3 := sBody 46 2 1 dg sZ3
def sAll (s : Nat → List Nat → G → Option G) (l : List Nat) : Option G :=
  if 1 ≤ (l.takeWhile dg).length then s (l.takeWhile dg).length (l.drop (l.takeWhile dg).length) [some 0, some (l.takeWhile dg).length] else none
theorem sB4_no {q c : Nat} {suf : List Nat} {g : G} (h : c ≠ 43) : sB4 q (c :: suf) g = none := (grp_ne h).trans rfl
theorem sP4_no {q c : Nat} {suf : List Nat} {g : G} (h : c ≠ 43) (h' : c ≠ 45) : sP4 q (c :: suf) g = none := (grp_ne h').trans (sB4_no h)
theorem sZ4_no {q c : Nat} {suf : List Nat} {g : G} (h : c ≠ 43) (h' : c ≠ 45) (h'' : c ≠ 46) : sZ4 q (c :: suf) g = none := (grp_ne h'').trans (sP4_no h h')
theorem sY4_no {q c : Nat} {suf : List Nat} {g : G} (h : c ≠ 43) (h' : c ≠ 45) (h'' : c ≠ 46) : sY4 q (c :: suf) g = none := (grp_ne h'').trans (sP4_no h h')
theorem sB3_no {q c : Nat} {suf : List Nat} {g : G} (h : c ≠ 43) : sB3 q (c :: suf) g = none := (grp_ne h).trans rfl
theorem sP3_no {q c : Nat} {suf : List Nat} {g : G} (h : c ≠ 43) (h' : c ≠ 45) : sP3 q (c :: suf) g = none := (grp_ne h').trans (sB3_no h)
theorem sZ3_no {q c : Nat} {suf : List Nat} {g : G} (h : c ≠ 46) : sZ3 q (c :: suf) g = none := if_neg fun q => h q.1
theorem sY3_no {q c : Nat} {suf : List Nat} {g : G} (h : c ≠ 46) : sY3 q (c :: suf) g = none := if_neg fun q => h q.1
section
variable {T : Array Nat}
theorem fit {S n m : Nat} (hS : S ≤ 300) (h : 302 * (2 * n + 6) + 10 ≤ m) : (S + 2) * (2 * n + 6) + 10 ≤ m :=
  Nat.le_trans (Nat.add_le_add_right (Nat.mul_le_mul_right _ (by omega)) _) h
theorem p4_119 (hA : Ascii T) {K : Ctx} {d len : Nat} (hd : d ≤ 40) : Pt code4 T K d 119 len 43 sEnd := (pt_end hA (by decide) rfl rfl rfl).le (by omega) (Nat.le_refl _)
theorem p4_91 (hA : Ascii T) (hS : T.size ≤ 300) {K : Ctx} (hK : PushK K) {d : Nat} (hd : d ≤ 30) : Pt code4 T K d 91 8 29051 sB4 := by
  have b := pt_body (C := code4) (T := T) (K := KB 91 K) (d := d + 2) (p := 95) (a := 8) (ch := 43) (skip := 16) (least := 0) (f := cl) (next := sEnd) (by omega) (by omega) (by decide) hA (by decide) rfl rfl rfl rfl rfl rfl rfl rfl (acc_cl hA (by decide) rfl rfl (by decide) rfl) rfl rfl
    (pt_until (p := 91) (u := 118) (by omega) (by decide) rfl rfl rfl (p4_119 hA (by omega))) (fun _ _ _ _ _ => rfl)
  exact (pt_group (s := 26) (by omega) hK (by decide) rfl rfl rfl rfl rfl (b.le (fit hS (Nat.le_refl _)) (Nat.le_refl _)) (p4_119 hA (by omega)) (fun _ _ _ => rfl)).le (by decide) (Nat.le_refl _)
theorem p4_63 (hA : Ascii T) (hS : T.size ≤ 300) {K : Ctx} (hK : PushK K) {d : Nat} (hd : d ≤ 20) : Pt code4 T K d 63 6 17578891 sP4 := by
  have b := pt_body (C := code4) (T := T) (K := KB 63 K) (d := d + 2) (p := 67) (a := 6) (ch := 45) (skip := 16) (least := 0) (f := cl) (next := sB4) (by omega) (by omega) (by decide) hA (by decide) rfl rfl rfl rfl rfl rfl rfl rfl (acc_cl hA (by decide) rfl rfl (by decide) rfl) rfl rfl
    (pt_until (p := 63) (u := 90) (by omega) (by decide) rfl rfl rfl (p4_91 hA hS hK (by omega))) (fun _ _ _ _ h => sB4_no (cl_43 h))
  exact (pt_group (s := 26) (by omega) hK (by decide) rfl rfl rfl rfl rfl (b.le (fit hS (Nat.le_refl _)) (Nat.le_refl _)) ((p4_91 hA hS hK (by omega)).le (Nat.le_refl _) (by decide)) (fun _ _ _ => sB4_no (by decide))).le (by decide) (Nat.le_refl _)
theorem p4_62 (hA : Ascii T) (hS : T.size ≤ 300) {K : Ctx} (hK : PushK K) {d : Nat} (hd : d ≤ 19) : Pt code4 T (KB 21 K) d 62 6 17578893 sP4 := pt_until (by omega) (by decide) rfl rfl rfl (p4_63 hA hS hK (by omega))
theorem p4_41 (hA : Ascii T) (hS : T.size ≤ 300) {K : Ctx} (hK : PushK K) {d : Nat} (hd : d ≤ 12) : Pt code4 T (KB 21 K) d 41 4 10635233301 sZ4 := by
  have b := pt_body (C := code4) (T := T) (K := KB 41 (KB 21 K)) (d := d + 2) (p := 45) (a := 4) (ch := 46) (skip := 9) (least := 1) (f := dg) (next := sP4) (by omega) (by omega) (by decide) hA (by decide) rfl rfl rfl rfl rfl rfl rfl rfl (acc_dg hA (by decide) rfl rfl rfl rfl) rfl rfl
    (pt_until (p := 41) (u := 61) (by omega) (by decide) rfl rfl rfl (p4_62 hA hS hK (by omega))) (fun _ _ _ _ h => sP4_no (cl_43 (dg_cl h)) (dg_45 h))
  exact (pt_group (s := 19) (by omega) (pushKB hK) (by decide) rfl rfl rfl rfl rfl (b.le (fit hS (Nat.le_refl _)) (Nat.le_refl _)) ((p4_62 hA hS hK (by omega)).le (Nat.le_refl _) (by decide)) (fun _ _ _ => sP4_no (by decide) (by decide))).le (by decide) (Nat.le_refl _)
theorem p4_21 (hA : Ascii T) (hS : T.size ≤ 300) {d : Nat} (hd : d ≤ 4) : Pt code4 T K0 d 21 2 6423698494523 sY4 := by
  have b := pt_body (C := code4) (T := T) (K := KB 21 K0) (d := d + 2) (p := 25) (a := 2) (ch := 46) (skip := 9) (least := 1) (f := dg) (next := sZ4) (by omega) (by omega) (by decide) hA (by decide) rfl rfl rfl rfl rfl rfl rfl rfl (acc_dg hA (by decide) rfl rfl rfl rfl) rfl rfl
    (p4_41 hA hS pushK0 (by omega)) (fun _ _ _ _ h => sZ4_no (cl_43 (dg_cl h)) (dg_45 h) (dg_46 h))
  exact (pt_group (s := 40) (by omega) pushK0 (by decide) rfl rfl rfl rfl rfl (b.le (fit hS (Nat.le_refl _)) (Nat.le_refl _)) ((p4_63 hA hS pushK0 (by omega)).le (Nat.le_refl _) (by decide)) (fun _ _ _ => sP4_no (by decide) (by decide))).le (by decide) (Nat.le_refl _)
theorem start {C : Array Nat} {N : Nat} {s : Nat → List Nat → G → Option G} (hA : Ascii T) (hS : T.size ≤ 300) (hs : 30 < C.size) (h5 : C.getD 5 0 = 6) (h6 : C.getD 6 0 = 0) (h7 : C.getD 7 0 = 17) (h8 : C.getD 8 0 = 0) (h9 : C.getD 9 0 = 24) (h10 : C.getD 10 0 = 9) (h11 : C.getD 11 0 = 1) (h12 : C.getD 12 0 = 4294967295)
    (h13 : C.getD 13 0 = 13) (h15 : C.getD 15 0 = 8) (h16 : C.getD 16 0 = 10) (h17 : C.getD 17 0 = 0) (h19 : C.getD 19 0 = 17) (h20 : C.getD 20 0 = 1) (hp : Pt C T K0 1 21 2 N s) (hno : ∀ q c suf g, dg c = true → s q (c :: suf) g = none) :
    R C T K0 0 5 0 [] (302 * (2 * N + 6) + 10) (sAll s T.toList) := by
  obtain ⟨M, hM⟩ : ∃ M, M = tw dg T (T.size - 0) 0 := ⟨_, rfl⟩
  have hMl : (T.toList.takeWhile dg).length = M := by rw [hM, tw_list dg _ _ rfl]; rfl
  have hMb : M ≤ T.size := by
    rw [← hMl]
    refine Nat.le_trans (List.takeWhile_sublist dg).length_le ?_
    simp
  have hacc : Acc C (9 + 4) dg T := acc_dg hA (by omega) h13 h15 h16 h17
  unfold sAll
  rw [hMl]
  by_cases hle : 1 ≤ M
  · rw [if_pos hle]
    have k1 : ∀ i, i ≤ M → R C T K0 1 (9 + 1 + 9) (0 + i) (ext [] 0 0) (N + 1) (s (0 + i) (T.toList.drop (0 + i)) (ext (ext [] 0 0) 1 (0 + i))) := fun i hi =>
      r_mark (i := 1) (by omega) h19 h20 (by decide) (by decide) (hp _ _ (by omega) (by rw [ext_len (by decide)]; decide))
    have e0 : ext (ext [] 0 0) 1 (0 + M) = [some 0, some M] := by rw [Nat.zero_add]; rfl
    have k2 := k1 M (Nat.le_refl _)
    rw [e0] at k2
    rw [show s (0 + M) (T.toList.drop (0 + M)) = s M (T.toList.drop M) by rw [Nat.zero_add]] at k2
    refine (r_begin (by omega) h5 h6 rfl (r_mark (i := 0) (by omega) h7 h8 (Nat.le_refl _) (by decide) (r_many (q := N + 1) (a := N + 1) (least := 1) (by omega) (by omega) (by omega) (by omega) h9 h10 h11 h12 hacc hM hle k2 fun e i hi hi' => ?_))).le ?_
    · have := k1 i (by omega)
      obtain ⟨c, rest, e1, e2⟩ := tw_in (f := dg) (l := T.toList) (i := i) (by rw [hMl]; exact hi')
      rw [show s (0 + i) (T.toList.drop (0 + i)) = s i (T.toList.drop i) by rw [Nat.zero_add], e1, hno _ _ _ _ e2] at this
      exact this
    · have e : (M + 1) * (N + 1 + 1 + (N + 1)) ≤ 301 * (2 * N + 6) := Nat.mul_le_mul (by omega) (by omega)
      omega
  · rw [if_neg hle]
    exact (r_begin (by omega) h5 h6 rfl (r_mark (i := 0) (by omega) h7 h8 (Nat.le_refl _) (by decide) (r_many_no (least := 1) (by omega) h9 h11 h12 hacc (by omega) (by omega) (by rw [← hM]; omega)))).le (by omega)
theorem all4 (hA : Ascii T) (hS : T.size ≤ 300) : R code4 T K0 0 5 0 [] (302 * (2 * 6423698494523 + 6) + 10) (sAll sY4 T.toList) :=
  start hA hS (by decide) rfl rfl rfl rfl rfl rfl rfl rfl rfl rfl rfl rfl rfl rfl (p4_21 hA hS (by decide)) fun _ _ _ _ h => sY4_no (cl_43 (dg_cl h)) (dg_45 h) (dg_46 h)
/-! the whole pattern -/
theorem p3_109 (hA : Ascii T) {K : Ctx} {d len : Nat} (hd : d ≤ 40) : Pt code3 T K d 109 len 43 sEnd := (pt_end hA (by decide) rfl rfl rfl).le (by omega) (Nat.le_refl _)
theorem p3_81 (hA : Ascii T) (hS : T.size ≤ 300) {K : Ctx} (hK : PushK K) {d : Nat} (hd : d ≤ 30) : Pt code3 T K d 81 8 29051 sB3 := by
  have b := pt_body (C := code3) (T := T) (K := KB 81 K) (d := d + 2) (p := 85) (a := 8) (ch := 43) (skip := 16) (least := 1) (f := cl) (next := sEnd) (by omega) (by omega) (by decide) hA (by decide) rfl rfl rfl rfl rfl rfl rfl rfl (acc_cl hA (by decide) rfl rfl (by decide) rfl) rfl rfl
    (pt_until (p := 81) (u := 108) (by omega) (by decide) rfl rfl rfl (p3_109 hA (by omega))) (fun _ _ _ _ _ => rfl)
  exact (pt_group (s := 26) (by omega) hK (by decide) rfl rfl rfl rfl rfl (b.le (fit hS (Nat.le_refl _)) (Nat.le_refl _)) (p3_109 hA (by omega)) (fun _ _ _ => rfl)).le (by decide) (Nat.le_refl _)
theorem p3_53 (hA : Ascii T) (hS : T.size ≤ 300) {K : Ctx} (hK : PushK K) {d : Nat} (hd : d ≤ 20) : Pt code3 T K d 53 6 17578891 sP3 := by
  have b := pt_body (C := code3) (T := T) (K := KB 53 K) (d := d + 2) (p := 57) (a := 6) (ch := 45) (skip := 16) (least := 1) (f := cl) (next := sB3) (by omega) (by omega) (by decide) hA (by decide) rfl rfl rfl rfl rfl rfl rfl rfl (acc_cl hA (by decide) rfl rfl (by decide) rfl) rfl rfl
    (pt_until (p := 53) (u := 80) (by omega) (by decide) rfl rfl rfl (p3_81 hA hS hK (by omega))) (fun _ _ _ _ h => sB3_no (cl_43 h))
  exact (pt_group (s := 26) (by omega) hK (by decide) rfl rfl rfl rfl rfl (b.le (fit hS (Nat.le_refl _)) (Nat.le_refl _)) ((p3_81 hA hS hK (by omega)).le (Nat.le_refl _) (by decide)) (fun _ _ _ => sB3_no (by decide))).le (by decide) (Nat.le_refl _)
theorem p3_37 (hA : Ascii T) (hS : T.size ≤ 300) {d : Nat} (hd : d ≤ 12) : Pt code3 T K0 d 37 4 10635233301 sZ3 :=
  (pt_body (C := code3) (T := T) (K := K0) (d := d) (p := 37) (a := 4) (ch := 46) (skip := 9) (least := 1) (f := dg) (next := sP3) (by omega) (by omega) (by decide) hA (by decide) rfl rfl rfl rfl rfl rfl rfl rfl (acc_dg hA (by decide) rfl rfl rfl rfl) rfl rfl
    (p3_53 hA hS pushK0 (by omega)) (fun _ _ _ _ h => sP3_no (cl_43 (dg_cl h)) (dg_45 h))).le (fit hS (by decide)) (Nat.le_refl _)
theorem p3_21 (hA : Ascii T) (hS : T.size ≤ 300) {d : Nat} (hd : d ≤ 4) : Pt code3 T K0 d 21 2 6423698494523 sY3 :=
  (pt_body (C := code3) (T := T) (K := K0) (d := d) (p := 21) (a := 2) (ch := 46) (skip := 9) (least := 1) (f := dg) (next := sZ3) (by omega) (by omega) (by decide) hA (by decide) rfl rfl rfl rfl rfl rfl rfl rfl (acc_dg hA (by decide) rfl rfl rfl rfl) rfl rfl
    (p3_37 hA hS (by omega)) (fun _ _ _ _ h => sZ3_no (dg_46 h))).le (fit hS (by decide)) (Nat.le_refl _)
theorem all3 (hA : Ascii T) (hS : T.size ≤ 300) : R code3 T K0 0 5 0 [] (302 * (2 * 6423698494523 + 6) + 10) (sAll sY3 T.toList) :=
  start hA hS (by decide) rfl rfl rfl rfl rfl rfl rfl rfl rfl rfl rfl rfl rfl rfl (p3_21 hA hS (by decide)) fun _ _ _ _ h => sY3_no (dg_46 h)
end
end Mine
end
section
open PySem PySem.W PyProof.Rows PySem.Spec PySem.Calls
set_option maxRecDepth 100000
set_option linter.unusedVariables false
noncomputable section
namespace Mine
theorem KAll.look {news : Led} : ∀ {kvs : List (Str × Value)} {kds : List (Str × D)}, KAll news kvs kds → ∀ y d, kds.lookup y = some d → ∃ v, kvs.lookup y = some v ∧ DIn news v d
  | [], [], _, y, d, h => by cases h
  | (k, v) :: r, (k', d') :: r', ⟨e, h, t⟩, y, d, hy => by
    subst e
    rw [List.lookup_cons] at hy ⊢
    split at hy
    · rename_i q
      cases hy
      exact ⟨v, rfl, h⟩
    · rename_i q
      exact KAll.look t y d hy
theorem KAll.append {news : Led} : ∀ {a b : List (Str × Value)} {a' b' : List (Str × D)}, KAll news a a' → KAll news b b' → KAll news (a ++ b) (a' ++ b')
  | [], _, [], _, _, h => h
  | (_, _) :: _, _, (_, _) :: _, _, ⟨e, h, t⟩, k => ⟨e, h, KAll.append t k⟩
theorem KAll.rev {news : Led} : ∀ {a : List (Str × Value)} {a' : List (Str × D)}, KAll news a a' → KAll news a.reverse a'.reverse
  | [], [], _ => trivial
  | (k, v) :: r, (k', d') :: r', ⟨e, h, t⟩ => by
    rw [List.reverse_cons, List.reverse_cons]
    exact (KAll.rev t).append ⟨e, h, trivial⟩
theorem dall0 {news : Led} : ∀ {vs : List Value}, DAll news vs [] → vs = []
  | [], _ => rfl
theorem dallS {news : Led} {d : D} {ds : List D} : ∀ {vs : List Value}, DAll news vs (d :: ds) → ∃ v us, vs = v :: us ∧ DIn news v d ∧ DAll news us ds
  | v :: us, h => ⟨v, us, rfl, h.1, h.2⟩
theorem dall1 {news : Led} {d : D} {vs : List Value} (h : DAll news vs [d]) : ∃ v, vs = [v] ∧ DIn news v d := by
  obtain ⟨v, us, rfl, a, b⟩ := dallS h
  obtain rfl := dall0 b
  exact ⟨v, rfl, a⟩
theorem dall2 {news : Led} {d d' : D} {vs : List Value} (h : DAll news vs [d, d']) : ∃ v v', vs = [v, v'] ∧ DIn news v d ∧ DIn news v' d' := by
  obtain ⟨v, us, rfl, a, b⟩ := dallS h
  obtain ⟨v', rfl, a'⟩ := dall1 b
  exact ⟨v, v', rfl, a, a'⟩
theorem dall3 {news : Led} {d d' d'' : D} {vs : List Value} (h : DAll news vs [d, d', d'']) : ∃ v v' v'', vs = [v, v', v''] ∧ DIn news v d ∧ DIn news v' d' ∧ DIn news v'' d'' := by
  obtain ⟨v, us, rfl, a, b⟩ := dallS h
  obtain ⟨v', v'', rfl, a', a''⟩ := dall2 b
  exact ⟨v, v', v'', rfl, a, a', a''⟩
theorem kall0 {news : Led} : ∀ {kvs : List (Str × Value)}, KAll news kvs [] → kvs = []
  | [], _ => rfl
theorem kallS {news : Led} {n : Str} {d : D} {ds : List (Str × D)} : ∀ {kvs : List (Str × Value)}, KAll news kvs ((n, d) :: ds) → ∃ v us, kvs = (n, v) :: us ∧ DIn news v d ∧ KAll news us ds
  | (k, v) :: us, ⟨e, h, t⟩ => ⟨v, us, by rw [e], h, t⟩
theorem kall1 {news : Led} {n : Str} {d : D} {kvs : List (Str × Value)} (h : KAll news kvs [(n, d)]) : ∃ v, kvs = [(n, v)] ∧ DIn news v d := by
  obtain ⟨v, us, rfl, a, b⟩ := kallS h
  obtain rfl := kall0 b
  exact ⟨v, rfl, a⟩
def rho (kds : List (Str × D)) : Rho := fun y => kds.reverse.lookup y
theorem loc_of {news : Led} {kvs : List (Str × Value)} {kds : List (Str × D)} (h : KAll news kvs kds) : Loc (rho kds) (fun y => kvs.reverse.lookup y) news := fun y d e => h.rev.look y d e
/-- what a call hands in, bound to the names -/
theorem binds_ok {w : World} {fd : FuncData} {names : List (Str × NameKind)} {args : List D} {kw : List (Str × D)} (kds : List (Str × D))
    (h : ∀ (news : Led) vs kvs (s : Shared), (KF w).In s.heap → DAll news vs args → KAll news kvs kw → ∃ binds, BindsTo s fd ⟨vs, kvs⟩ binds ∧ KAll news binds kds)
    (hl : (kds.all fun y => names.lookup y.1 == some .local) = true) :
    ∀ (news : Led) vs kvs (s : Shared), (KF w).In s.heap → DAll news vs args → KAll news kvs kw → ∃ binds, BindsTo s fd ⟨vs, kvs⟩ binds ∧ (∀ y ∈ binds, names.lookup y.1 = some .local) ∧ Loc (rho kds) (fun y => binds.reverse.lookup y) news := by
  intro news vs kvs s X a b
  obtain ⟨binds, h1, h2⟩ := h news vs kvs s X a b
  refine ⟨binds, h1, ?_, loc_of h2⟩
  have : ∀ {l : List (Str × Value)} {k : List (Str × D)}, KAll news l k → (k.all fun y => names.lookup y.1 == some .local) = true → ∀ y ∈ l, names.lookup y.1 = some .local := by
    intro l
    induction l with
    | nil => intro k _ _ y hy; cases hy
    | cons p l ih =>
      intro k hk hq y hy
      match k, hk with
      | (k', d') :: r', ⟨e, h, t⟩ =>
        rw [List.all_cons, Bool.and_eq_true] at hq
        rcases List.mem_cons.mp hy with rfl | hy
        · rw [e]; exact beq_iff_eq.mp hq.1
        · exact ih t hq.2 y hy
  exact this h2 hl
theorem of_cx {w mean mg mb base A₀ outer cn cs L a ccd g₀ fix rk os} : (Cx.mk w mean mg mb base A₀ outer cn cs L a ccd g₀ fix rk os none).cmp = none := rfl
theorem kws_nil {c : Cx} {ρ : Rho} : Kws c ρ [] [] := trivial
def z0 : Str := Str.ofString "0"
def lz (x : Str) : Bool := Txt.item x 0 == Str.ofString "0" && (Txt.isdigit x && (x != Str.ofString "0"))
local macro_rules | `(tactic| walk_at "leaf") => `(tactic| first | exact ev_str | exact ev_int | exact ev_none | exact ev_bool | exact ev_local (by assumption) (by with_unfolding_all rfl) (by kernel_rfl) (by kernel_rfl))
theorem fits0 : fitsSsize 0 = true := by decide
theorem fn_hlz (w : World) (x : Str) (hx : x.length ≤ 1000) (h0 : 0 < x.length) : FN w 0 false 65 [ds x] [] (some (db (lz x))) := by
  refine fn_of (f := 65) (ho := by with_unfolding_all rfl) (by kernel_rfl) (o := .ret (db (lz x))) (binds_ok [("value", ds x)] (fun news vs kvs s X a b => ?_) rfl) rfl (fun q => by cases q) (fun mean mg mb base A₀ outer L g₀ os O => ?_) rfl rfl rfl (by simp)
  · obtain ⟨v, rfl, a1⟩ := dall1 a
    obtain rfl := kall0 b
    exact ⟨[("value", v)], BindsTo.of_eq rfl, rfl, a1, trivial⟩
  · refine ex_ret (ex_return ?_)
    have hl : truD (.str x) = true := by show (x.length != 0) = true; simp; omega
    refine ev_and (b := true) (by walk_at "leaf") (hl ▸ ob_dat (x := .str x) (by show x.length < _; omega)) (fun _ => ?_) (fun q => by cases q)
    refine ev_and (b := Txt.item x 0 == Str.ofString "0") (ev_compare (ev_sub (by walk_at "leaf") (by walk_at "leaf") (sub_str fits0 (by omega) (by omega) (fun _ _ => rfl) (fun _ _ => rfl))) (by walk_at "leaf") op_eq_str) (ob_dat (x := .bool _) trivial) (fun h1 => ?_) (fun h1 => by unfold lz; rw [h1]; rfl)
    refine ev_and (b := Txt.isdigit x) (ev_method (by walk_at "leaf") gm_isdigit evs_nil kws_nil) (ob_dat (x := .bool _) trivial) (fun h2 => ?_) (fun h2 => by unfold lz; rw [h1, h2]; rfl)
    refine ev_bool_one ?_
    have e : lz x = (x != Str.ofString "0") := by unfold lz; rw [h1, h2]; rfl
    rw [e]
    exact ev_compare (by walk_at "leaf") (by walk_at "leaf") op_ne_str
theorem fn_hlz_none (w : World) : FN w 0 false 65 [dn] [] (some dn) := by
  refine fn_of (f := 65) (ho := by with_unfolding_all rfl) (by kernel_rfl) (o := .ret dn) (binds_ok [("value", dn)] (fun news vs kvs s X a b => ?_) rfl) rfl (fun q => by cases q) (fun mean mg mb base A₀ outer L g₀ os O => ?_) rfl rfl rfl (by simp)
  · obtain ⟨v, rfl, a1⟩ := dall1 a
    obtain rfl := kall0 b
    exact ⟨[("value", v)], BindsTo.of_eq rfl, rfl, a1, trivial⟩
  · exact ex_ret (ex_return (ev_and (b := false) (by walk_at "leaf") (ob_dat (x := .none) trivial) (fun q => by cases q) (fun _ => rfl)))
abbrev vcls : D := .val (.ref 457)
theorem k_int (w : World) : nsIn (KF w) mainGlobals "int" = some none := by kernel_rfl
theorem k_len (w : World) : nsIn (KF w) mainGlobals "len" = some none := by kernel_rfl
theorem k_str (w : World) : nsIn (KF w) mainGlobals "str" = some none := by kernel_rfl
theorem k_tuple (w : World) : nsIn (KF w) mainGlobals "tuple" = some none := by kernel_rfl
theorem k_VE (w : World) : nsIn (KF w) mainGlobals "ValueError" = some none := by kernel_rfl
theorem k_isi (w : World) : nsIn (KF w) mainGlobals "isinstance" = some none := by kernel_rfl
theorem k_iter (w : World) : nsIn (KF w) mainGlobals "iter" = some none := by kernel_rfl
theorem n_int : (Str.ofString "int") ≠ "__name__" := by decide +kernel
theorem n_len : (Str.ofString "len") ≠ "__name__" := by decide +kernel
theorem n_str : (Str.ofString "str") ≠ "__name__" := by decide +kernel
theorem n_tuple : (Str.ofString "tuple") ≠ "__name__" := by decide +kernel
theorem n_isi : (Str.ofString "isinstance") ≠ "__name__" := by decide +kernel
theorem n_iter : (Str.ofString "iter") ≠ "__name__" := by decide +kernel
local macro_rules | `(tactic| walk_at "leaf") => `(tactic| first | exact ev_B (by assumption) (k_int _) Boot.int n_int (by kernel_rfl) (by kernel_rfl))
theorem fn_coerce {w : World} {d : Dat} {b : Bool} {r : Dat} (h : (d = .none ∧ b = true ∧ r = .none) ∨ (∃ n, d = .int n ∧ r = .int n) ∨ ∃ x n, d = .str x ∧ PySem.intText? x = some n ∧ x.length ≤ 640 ∧ r = .int n) :
    FN w 0 false 300 [vcls, .dat d, db b] [] (some (.dat r)) := by
  refine fn_of (f := 300) (ho := by with_unfolding_all rfl) (by kernel_rfl) (o := .ret (.dat r)) (binds_ok [("cls", vcls), ("value", .dat d), ("allow_none", db b)] (fun news vs kvs s X a b => ?_) rfl) rfl (fun q => by cases q) (fun mean mg mb base A₀ outer L g₀ os O => ?_) rfl rfl rfl (by simp)
  · obtain ⟨v, v', v'', rfl, a1, a2, a3⟩ := dall3 a
    obtain rfl := kall0 b
    exact ⟨[("cls", v), ("value", v'), ("allow_none", v'')], binds_K X rfl (by with_unfolding_all rfl) rfl rfl rfl, rfl, a1, rfl, a2, rfl, a3, trivial⟩
  · rcases h with ⟨rfl, rfl, rfl⟩ | ⟨n, rfl, rfl⟩ | ⟨x, n, rfl, hx, hlen, rfl⟩
    · refine ex_ret (ex_if (et_boolop (ets_and (et_compare (d₁ := dn) (by walk_at "leaf") (by walk_at "leaf") op_is_none) fun _ => ets_and (et_value (by walk_at "leaf") (ob_dat (x := .bool true) trivial)) fun _ => ets_and_nil)) (fun _ => ex_ret (ex_return (by walk_at "leaf"))) (fun q => absurd q (by decide)))
    · refine ex_cons (ex_if (et_boolop (ets_and (b' := true) (et_compare (d₁ := di n) (by walk_at "leaf") (by walk_at "leaf") op_is_none) (fun q => by cases q))) (fun q => by cases q) (fun _ => ex_nil)) (ex_ret (ex_return (ev_call (by walk_at "leaf") (evs_cons (by walk_at "leaf") evs_nil) kws_nil fun _ => cb_int_int.callable (fun _ q => by cases q))))
    · refine ex_cons (ex_if (et_boolop (ets_and (b' := true) (et_compare (d₁ := ds x) (by walk_at "leaf") (by walk_at "leaf") op_is_none) (fun q => by cases q))) (fun q => by cases q) (fun _ => ex_nil)) (ex_ret (ex_return (ev_call (by walk_at "leaf") (evs_cons (by walk_at "leaf") evs_nil) kws_nil fun _ => (cb_int hx hlen).callable (fun _ q => by cases q))))
end Mine
end
end
section
open PySem PySem.W PyProof.Rows PySem.Spec PySem.Calls
set_option maxRecDepth 100000
set_option linter.unusedVariables false
noncomputable section
namespace Mine
local macro_rules | `(tactic| walk_at "leaf") => `(tactic| first | exact ev_str | exact ev_int | exact ev_none | exact ev_bool | exact ev_local (by assumption) (by first | with_unfolding_all rfl | (unfold upd; rw [if_neg (by decide +kernel)]; assumption)) (by kernel_rfl) (by kernel_rfl))
def okI (allow : Bool) (x : Str) : Bool := !(x.length == 0) && !(lz x && !allow)
def foldI (ρ : Rho) : List Str → Rho
  | [] => ρ
  | x :: l => foldI (upd ρ "item" (ds x)) l
theorem ex_one {c : Cx} {ρ : Rho} {st : Stmt} {o : Out} (h : EX1 c ρ st o) : EX c ρ [st] o := by
  cases o with
  | next ρ' => exact ex_cons h ex_nil
  | ret d => exact ex_ret h
  | err => exact ex_err h
theorem turns_nil {c : Cx} {ρ : Rho} {x : Str} {body : List Stmt} {o : Out} (h : o = .next ρ) : Turns c x body ρ [] o := h
theorem turns_next {c : Cx} {ρ ρ' : Rho} {x : Str} {body : List Stmt} {d : Dat} {l : List Dat} {o : Out} (h : EX c (upd ρ x (.dat d)) body (.next ρ')) (k : Turns c x body ρ' l o) : Turns c x body ρ (d :: l) o := .inl ⟨ρ', h, k⟩
theorem turns_stop {c : Cx} {ρ : Rho} {x : Str} {body : List Stmt} {d : Dat} {l : List Dat} {o : Out} (h : EX c (upd ρ x (.dat d)) body o) (k : ∀ ρ', o ≠ .next ρ') : Turns c x body ρ (d :: l) o := .inr ⟨h, k⟩
/-- texts whose repr is not too long -/
def Shown (x : Str) : Prop := (reprText x).length ≤ 100000
set_option maxHeartbeats 2000000 in
theorem fn_valid (w : World) (ids : List Str) (allow : Bool) (h1 : ∀ x ∈ ids, x.length ≤ 1000 ∧ Shown x) (h2 : (ids.map (·.length)).sum + ids.length * 1 ≤ 16777216) (h3 : Shown (Txt.join (Str.ofString ".") ids)) :
    FN w 1 false 362 [vcls, dt (ids.map .str)] [("allow_leading_zeroes", db allow)] (if ids.all (okI allow) = true then some dn else none) := by
  refine fn_of (f := 362) (ho := by with_unfolding_all rfl) (by kernel_rfl) (o := if ids.all (okI allow) = true then .next (foldI (rho [("cls", vcls), ("identifiers", dt (ids.map .str)), ("allow_leading_zeroes", db allow)]) ids) else .err) (binds_ok [("cls", vcls), ("identifiers", dt (ids.map .str)), ("allow_leading_zeroes", db allow)] (fun news vs kvs s X a b => ?_) rfl) (by split <;> rfl) (fun _ => rfl) (fun mean mg mb base A₀ outer L g₀ os O => ?_) rfl rfl rfl (by simp)
  · obtain ⟨v, v', rfl, a1, a2⟩ := dall2 a
    obtain ⟨v'', rfl, a3⟩ := kall1 b
    exact ⟨[("cls", v), ("identifiers", v'), ("allow_leading_zeroes", v'')], binds_K X rfl (by with_unfolding_all rfl) rfl rfl rfl, rfl, a1, rfl, a2, rfl, a3, trivial⟩
  · refine ex_one (ex_for_tup O (by walk_at "leaf") ?_ (by kernel_rfl))
    have f1 : rho [("cls", vcls), ("identifiers", dt (ids.map .str)), ("allow_leading_zeroes", db allow)] "identifiers" = some (dt (ids.map .str)) := rfl
    have f2 : rho [("cls", vcls), ("identifiers", dt (ids.map .str)), ("allow_leading_zeroes", db allow)] "allow_leading_zeroes" = some (db allow) := rfl
    revert f1 f2
    generalize rho [("cls", vcls), ("identifiers", dt (ids.map .str)), ("allow_leading_zeroes", db allow)] = ρ
    intro f1 f2
    obtain ⟨all, hall⟩ : ∃ all, all = ids := ⟨ids, rfl⟩
    rw [← hall] at f1 h2 h3
    have h1' : ∀ x ∈ ids, x.length ≤ 1000 ∧ Shown x := h1
    clear h1 hall
    revert ρ
    induction ids with
    | nil => exact fun ρ f1 f2 => turns_nil (if_pos rfl)
    | cons x l ih =>
      intro ρ f1 f2
      obtain ⟨hx, hs⟩ := h1' x (List.mem_cons_self ..)
      have tp : topOk (.str x) := by show x.length < _; omega
      by_cases h0 : x.length = 0
      · have hall : ¬ ((x :: l).all (okI allow) = true) := by
          rw [List.all_cons]; unfold okI; rw [h0]; simp
        rw [if_neg hall]
        have hb : (!truD (.str x)) = true := by show (!(x.length != 0)) = true; rw [h0]; rfl
        refine turns_stop (ex_err (ex_if (et_not (et_value (by walk_at "leaf") (ob_dat tp))) (fun _ => ex_one (ex_raise O (ev_joined (ys := [Str.ofString "Invalid empty identifier ", reprText x, Str.ofString " in ", reprText (Txt.join (Str.ofString ".") all)]) ⟨by walk_at "leaf", ev_fmt_r (by walk_at "leaf") hs, by walk_at "leaf", ev_fmt_r (ev_method (by walk_at "leaf") (gm_join_tuple h2) (evs_cons (by walk_at "leaf") evs_nil) kws_nil) h3, trivial⟩ ?_) (by kernel_rfl) (k_VE _))) (fun q => by rw [hb] at q; cases q))) (fun _ q => by cases q)
        have e1 : ∀ (a b : Str), (a ++ b).length = a.length + b.length := fun a b => by simp [Str.length, Str.cps_append]
        have l1 : (Str.ofString "Invalid empty identifier ").length = 25 := by decide +kernel
        have l2 : (Str.ofString " in ").length = 4 := by decide +kernel
        have l0 : Str.empty.length = 0 := rfl
        have hs' : (reprText x).length ≤ 100000 := hs
        have h3' : (reprText (Txt.join (Str.ofString ".") all)).length ≤ 100000 := h3
        simp only [JFit, e1, l0, l1, l2]
        exact ⟨by omega, by omega, by omega, by omega, trivial⟩
      · have hb : (!truD (.str x)) = false := by show (!(x.length != 0)) = false; simp; exact h0
        have i0 : 0 < x.length := by omega
        by_cases hz : (lz x && !allow) = true
        · have hall : ¬ ((x :: l).all (okI allow) = true) := by
            rw [List.all_cons]; unfold okI; rw [hz]; simp
          rw [if_neg hall]
          refine turns_stop (ex_cons (ex_if (et_not (et_value (by walk_at "leaf") (ob_dat tp))) (fun q => by rw [hb] at q; cases q) (fun _ => ex_nil)) (ex_err (ex_if (et_boolop (ets_and
            (et_compare (ev_sub (by walk_at "leaf") (by walk_at "leaf") (sub_str fits0 (by omega) (by omega) (fun _ _ => rfl) (fun _ _ => rfl))) (by walk_at "leaf") op_eq_str) fun _ => ets_and
            (et_value (ev_method (by walk_at "leaf") gm_isdigit evs_nil kws_nil) (ob_dat (x := .bool _) trivial)) fun _ => ets_and
            (et_compare (by walk_at "leaf") (by walk_at "leaf") op_ne_str) fun _ => ets_and
            (et_not (et_value (by walk_at "leaf") (ob_dat (x := .bool _) trivial))) fun _ => ets_and_nil))
            (fun _ => ex_one (ex_raise O (ev_binop (by walk_at "leaf") (by walk_at "leaf") (op_mod_r (Fm := Str.ofString "Invalid leading zero in identifier %r") (T := Str.ofString "Invalid leading zero in identifier ") rfl (by omega) pm_ident hs)) (by kernel_rfl) (k_VE _))) (fun q => ?_)))) (fun _ q => by cases q)
          exfalso
          revert q hz
          unfold lz
          show _ → (Txt.item x 0 == Str.ofString "0" && (Txt.isdigit x && (x != Str.ofString "0" && (!allow && true)))) = false → _
          cases Txt.item x 0 == Str.ofString "0" <;> cases Txt.isdigit x <;> cases x != Str.ofString "0" <;> cases allow <;> simp
        · have hall : (x :: l).all (okI allow) = l.all (okI allow) := by
            have e0 : (x.length == 0) = false := by simp; exact h0
            rw [List.all_cons]; unfold okI; rw [Bool.eq_false_iff.mpr hz, e0]; simp
          rw [hall]
          refine turns_next (ex_cons (ex_if (et_not (et_value (by walk_at "leaf") (ob_dat tp))) (fun q => by rw [hb] at q; cases q) (fun _ => ex_nil)) (ex_one (ex_if (et_boolop (ets_and
            (et_compare (ev_sub (by walk_at "leaf") (by walk_at "leaf") (sub_str fits0 (by omega) (by omega) (fun _ _ => rfl) (fun _ _ => rfl))) (by walk_at "leaf") op_eq_str) fun _ => ets_and
            (et_value (ev_method (by walk_at "leaf") gm_isdigit evs_nil kws_nil) (ob_dat (x := .bool _) trivial)) fun _ => ets_and
            (et_compare (by walk_at "leaf") (by walk_at "leaf") op_ne_str) fun _ => ets_and
            (et_not (et_value (by walk_at "leaf") (ob_dat (x := .bool _) trivial))) fun _ => ets_and_nil))
            (fun q => ?_) (fun _ => ex_nil)))) (ih (fun y hy => h1' y (List.mem_cons_of_mem _ hy)) _ (by unfold upd; rw [if_neg (by decide +kernel)]; exact f1) (by unfold upd; rw [if_neg (by decide +kernel)]; exact f2))
          exfalso
          revert q hz
          unfold lz
          show _ → (Txt.item x 0 == Str.ofString "0" && (Txt.isdigit x && (x != Str.ofString "0" && (!allow && true)))) = true → _
          cases Txt.item x 0 == Str.ofString "0" <;> cases Txt.isdigit x <;> cases x != Str.ofString "0" <;> cases allow <;> simp
end Mine
end
end
section
open PySem PySem.W PyProof.Rows PySem.Spec PySem.Calls
set_option maxRecDepth 100000
set_option linter.unusedVariables false
set_option linter.unusedSimpArgs false
noncomputable section
namespace Mine
/-! facts of the table -/
theorem pa_pat : PlainAttrs "re.Pattern" := ⟨⟨"object.__getattribute__", by rw [typeLookup_type, builtinLookup_eq_fast]; kernel_rfl, by decide +kernel⟩, by rw [typeLookup_type, builtinLookup_eq_fast]; kernel_rfl⟩
theorem pa_mat : PlainAttrs "re.Match" := ⟨⟨"object.__getattribute__", by rw [typeLookup_type, builtinLookup_eq_fast]; kernel_rfl, by decide +kernel⟩, by rw [typeLookup_type, builtinLookup_eq_fast]; kernel_rfl⟩
theorem slot_match : Slot "re.Pattern" "match" "re.Pattern.match" :=
  .of (owner := "re.Pattern") (n := "match") (by rw [typeLookup_type, builtinLookup_eq_fast]; kernel_rfl) (by decide +kernel) (by decide +kernel) (by decide +kernel)
    (by first | exact .inl (by decide +kernel) | exact .inr (by decide +kernel)) (by rw [isSubtype_type]; kernel_rfl)
theorem type_match : typeOf (.builtin "re.Pattern.match") = pure (.type "method_descriptor") := by show builtinType _ = _; rw [builtinType_eq_fast]; kernel_rfl
theorem entry_match : entryFor table "re.Pattern.match" = some Builtin.«re.Pattern.match» := entryFor_of_tree (by kernel_rfl)
theorem args_match (a b : Value) : argsOk "re.Pattern.match" ⟨[a, b], []⟩ := by unfold argsOk; kernel_rfl
theorem slot_groups : Slot "re.Match" "groups" "re.Match.groups" :=
  .of (owner := "re.Match") (n := "groups") (by rw [typeLookup_type, builtinLookup_eq_fast]; kernel_rfl) (by decide +kernel) (by decide +kernel) (by decide +kernel)
    (by first | exact .inl (by decide +kernel) | exact .inr (by decide +kernel)) (by rw [isSubtype_type]; kernel_rfl)
theorem type_groups : typeOf (.builtin "re.Match.groups") = pure (.type "method_descriptor") := by show builtinType _ = _; rw [builtinType_eq_fast]; kernel_rfl
theorem entry_groups : entryFor table "re.Match.groups" = some Builtin.«re.Match.groups» := entryFor_of_tree (by kernel_rfl)
theorem args_groups (a : Value) : argsOk "re.Match.groups" ⟨[a], []⟩ := by unfold argsOk; kernel_rfl
theorem k43 (w : World) : ∃ p f g gi sl, (KF w).lookup 43 = some ⟨.type "re.Pattern", none, .fields #[p, f, .int 5 g, .none, .none, .ref 42, .int 0 gi], sl⟩ := ⟨_, _, _, _, _, by with_unfolding_all rfl⟩
theorem k48 (w : World) : ∃ p f g gi sl, (KF w).lookup 48 = some ⟨.type "re.Pattern", none, .fields #[p, f, .int 5 g, .none, .none, .ref 47, .int 0 gi], sl⟩ := ⟨_, _, _, _, _, by with_unfolding_all rfl⟩
theorem k42 (w : World) : ∃ c d n sl, (KF w).lookup 42 = some ⟨c, d, .seq (code3.map fun (k : Nat) => .int (k : Int) 0) n, sl⟩ := ⟨_, _, _, _, by with_unfolding_all rfl⟩
theorem k47 (w : World) : ∃ c d n sl, (KF w).lookup 47 = some ⟨c, d, .seq (code4.map fun (k : Nat) => .int (k : Int) 0) n, sl⟩ := ⟨_, _, _, _, by with_unfolding_all rfl⟩

theorem stepN_done {m : Sre.M} (h : m.outcome.isSome = true) : ∀ k, stepN k m = m := by
  intro k
  induction k with
  | zero => rfl
  | succ k ih =>
    show stepN k m.step = m
    have e : m.step = m := by unfold Sre.M.step; rw [if_pos h]
    rw [e]; exact ih
theorem runFor_eq : ∀ (n : Nat) (m : Sre.M), m.runFor n = stepN n m
  | 0, m => rfl
  | n + 1, m => by
    unfold Sre.M.runFor
    split
    · rename_i h; rw [stepN_done h]
    · exact runFor_eq n m.step
theorem stepN_ge {m : Sre.M} {i j : Nat} (h : (stepN i m).outcome.isSome = true) (hij : i ≤ j) : stepN j m = stepN i m := by
  obtain ⟨d, rfl⟩ := Nat.le.dest hij
  rw [stepN_add, stepN_done h]
section
variable {prog : Program} {w : World} {A : Around} {E : Value → Shared → Prop} {s : Shared}
theorem drive_ok : ∀ (turns k : Nat) (m : Sre.M) (Q : Sre.M → Shared → Prop), (stepN k m).outcome.isSome = true → k + 4 ≤ 4 * turns → Q (stepN k m) s → wpAny (model prog w) A (Builtin.Re.reDrive turns m) Q E s := by
  intro turns
  induction turns with
  | zero => intro k m Q _ h _; omega
  | succ turns ih =>
    intro k m Q ho hk hQ
    unfold Builtin.Re.reDrive
    show wpAny _ _ (if (m.runFor 4).outcome.isSome = true then pure (m.runFor 4) else (do rule "sre.turn"; Builtin.Re.reDrive turns (m.runFor 4))) Q E s
    rw [runFor_eq]
    split
    · rename_i h4
      refine wpAny_pure ?_
      by_cases h : k ≤ 4
      · rw [stepN_ge ho h]; exact hQ
      · rw [stepN_ge h4 (by omega)] at hQ; exact hQ
    · rename_i h4
      refine wpAny_bind (wpAny_rule ?_)
      have hk4 : 4 < k := by
        by_cases h : k ≤ 4
        · exact absurd (by rw [stepN_ge ho h]; exact ho) h4
        · omega
      have e : stepN (k - 4) (stepN 4 m) = stepN k m := by rw [← stepN_add]; congr 1; omega
      exact ih (k - 4) (stepN 4 m) Q (by rw [e]; exact ho) (by omega) (by rw [e]; exact hQ)
theorem run_end {m : Sre.M} {k : Nat} {Q : Option Sre.M → Shared → Prop} (hk : k + 4 ≤ 4 * 2 ^ 64) (h : (∃ o, (stepN k m).outcome = some o ∧ match o with | .matched => Q (some (stepN k m)) s | .failed => Q none s | .stuck _ => False)) :
    wpAny (model prog w) A (Builtin.Re.reRunToEnd m) Q E s := by
  obtain ⟨o, ho, hq⟩ := h
  unfold Builtin.Re.reRunToEnd
  refine wpAny_bind (drive_ok (2 ^ 64) k m _ (by rw [ho]; rfl) hk ?_)
  refine wpAny_bind (wpAny_forIn_list _ (fun _ _ s' => s' = s) _ (fun x rest b s' hs => ?_) (fun b s' hs => ?_) _ _ rfl)
  · subst hs
    refine wpAny_ite ?_
    split
    · exact wpAny_bind (wpAny_rule (wpAny_pure rfl))
    · exact wpAny_pure rfl
  · subst hs
    simp only [ho]
    cases o with
    | matched => exact wpAny_pure hq
    | failed => exact wpAny_pure hq
    | stuck => exact hq.elim

end
def spansOf (g : G) : List Int := (List.range 5).flatMap fun k => match g.getD (2 * k) none, g.getD (2 * k + 1) none with
  | some b, some e => [(b : Int), (e : Int)]
  | _, _ => [-1, -1]
def okG (g : G) : Bool := (List.range 5).all fun k => match g.getD (2 * k) none, g.getD (2 * k + 1) none with
  | some b, some e => decide (b ≤ e)
  | _, _ => true
theorem mark_at {ms : Ms} {lm : Int} {g : G} (hm : MK ms lm g) (k : Nat) : (if ((2 * k + 1 : Nat) : Int) ≤ lm then (ms.getD (2 * k) none, ms.getD (2 * k + 1) none) else (none, none)) = if 2 * k + 1 < g.length then (g.getD (2 * k) none, g.getD (2 * k + 1) none) else (none, none) := by
  obtain ⟨⟨hs, hl, ha⟩, hlm⟩ := hm
  by_cases h : 2 * k + 1 < g.length
  · rw [if_pos h, if_pos (by omega), ha _ h, ha _ (by omega)]
  · rw [if_neg h, if_neg (by omega)]
theorem getD_none {g : G} {k : Nat} (h : ¬ 2 * k + 1 < g.length) : g.getD (2 * k + 1) none = none := by
  simp only [List.getD]
  rw [List.getElem?_eq_none (by omega)]; rfl
theorem spans_eq {ms : Ms} {lm : Int} {g : G} (hm : MK ms lm g) :
    ((List.range 5).flatMap fun k => match if ((2 * k + 1 : Nat) : Int) ≤ lm then (ms.getD (2 * k) none, ms.getD (2 * k + 1) none) else (none, none) with
      | (some b, some e) => [rawInt b, rawInt e]
      | _ => [rawInt (-1), rawInt (-1)]) = (spansOf g).map rawInt := by
  unfold spansOf
  rw [List.map_flatMap]
  congr 1
  funext k
  rw [mark_at hm]
  by_cases h : 2 * k + 1 < g.length
  · rw [if_pos h]
    cases g.getD (2 * k) none <;> cases g.getD (2 * k + 1) none <;> rfl
  · rw [if_neg h, getD_none h]
    cases g.getD (2 * k) none <;> rfl
theorem right_span {ms : Ms} {lm : Int} {g : G} (hm : MK ms lm g) (hg : okG g = true) :
    ((List.range 5).any fun k => match ms.getD (2 * k) none, ms.getD (2 * k + 1) none with | some b, some e => decide (((2 * k + 1 : Nat) : Int) ≤ lm) && decide (e < b) | _, _ => false) = false := by
  rw [List.any_eq_false]
  intro k hk
  have hgk := List.all_eq_true.mp hg k hk
  obtain ⟨⟨hs, hl, ha⟩, hlm⟩ := hm
  by_cases h : 2 * k + 1 < g.length
  · rw [ha _ h, ha _ (by omega)]
    revert hgk
    cases g.getD (2 * k) none <;> cases g.getD (2 * k + 1) none <;> simp
    intro q z; omega
  · have : decide (((2 * k + 1 : Nat) : Int) ≤ lm) = false := decide_eq_false (by omega)
    cases ms.getD (2 * k) none <;> cases ms.getD (2 * k + 1) none <;> simp [this]
    intro q; omega
section
variable {c : Cx} {m : Str → Option Value} {news news' : Led} {s s' : Shared} {ρ ρ' : Rho}
theorem named3 {v : Value} : Builtin.Re.reNamed "re.Pattern.match" "match" ["string", "pos", "endpos"] 1 [v] [] = pure [some v, none, none] := by kernel_rfl
theorem new_match {x : Str} {t : Tok} {pat : Value} {M : Sre.M} {g : G} {p l : Nat} {Q : Value → Shared → Prop} {E : Value → Shared → Prop} {A : Around} (S : St c m news s) (hm : MK M.marks M.lastmark g) (hg : okG g = true)
    (hQ : ∀ v n' s', news ⊆ n' → St c m n' s' → DIn n' v (.mat x (spansOf g)) → Q v s') : wpAny c.M A (Builtin.Re.reNewMatch pat (.str x t) 5 p l M) Q E s := by
  unfold Builtin.Re.reNewMatch
  have hw := right_span hm hg
  refine wpAny_ite ?_
  refine KPc.ite_no (fun q => absurd (Eq.trans (Eq.symm q) hw) (by decide)) ?_
  obtain ⟨h₀, G⟩ := S.gr
  have len5 : ((spansOf g).map rawInt).length ≤ 10 := by
    unfold spansOf
    have : ∀ k, (match g.getD (2 * k) none, g.getD (2 * k + 1) none with | some b, some e => [(b : Int), (e : Int)] | _, _ => [-1, -1]).length = 2 := by
      intro k
      cases g.getD (2 * k) none <;> cases g.getD (2 * k + 1) none <;> rfl
    rw [List.length_map, List.length_flatMap]
    simp only [this]
    decide
  refine wpAny_bind (newTuple_N G.F G.N (fun h' F N => ?_) ?_)
  · refine wpAny_newObj_type ?_ (by show (6 : Nat) ≤ _; rw [sizeLine_eq]; decide)
    have N1 : News h₀ c.L h' ((s.heap.objs.size, { cls := .type "tuple", data := .seq (rawInt M.start :: rawInt M.handed :: (spansOf g).map rawInt).toArray }) :: news) := by rw [← spans_eq hm]; exact N
    have F2 := F.push ({ cls := .type "re.Match", dict := none, data := .fields #[.str x t, pat, rawInt p, rawInt l, rawInt M.lastindex, .ref s.heap.objs.size] } : Obj)
    have N2 := News.push F N1 ({ cls := .type "re.Match", dict := none, data := .fields #[.str x t, pat, rawInt p, rawInt l, rawInt M.lastindex, .ref s.heap.objs.size] } : Obj)
    refine hQ _ _ _ (fun _ hp => List.mem_cons_of_mem _ (List.mem_cons_of_mem _ hp)) (S.heap (n := s.toks) ⟨h₀, G.at F2 N2⟩) (.mat (p := pat) (a := rawInt p) (b := rawInt l) (li := rawInt M.lastindex) (tk := t) (u := rawInt M.start) (v := rawInt M.handed) (tp := s.heap.objs.size) (List.mem_cons_self ..) (List.mem_cons_of_mem _ (List.mem_cons_self ..)))
  · have e := spans_eq hm
    show (_ :: _ :: _ : List Value).length ≤ _
    rw [sizeLine_eq]
    rw [← e] at len5
    exact Nat.le_trans (Nat.succ_le_succ (Nat.succ_le_succ len5)) (by decide)
theorem target_ok {A : Around} {pat ct : Addr} {C : Array Nat} {x : Str} {t : Tok} {p f : Value} {g gi : Tok} {o oc : Obj} {n : Nat} {Q : Builtin.Re.ReTarget → Shared → Prop} {E : Value → Shared → Prop} {prog : Program} {w : World}
    (ho : s.heap.get? pat = some o) (hd : o.data = .fields #[p, f, .int 5 g, .none, .none, .ref ct, .int 0 gi]) (hc : s.heap.get? ct = some oc) (hcd : oc.data = .seq (C.map fun (k : Nat) => .int (k : Int) 0) n) (hx : x.length ≤ 1000)
    (hQ : Q { pattern := .ref pat, string := .str x t, code := C, text := x.cps, kind := 0, groups := 5, pos := 0, lim := x.length } s) :
    wpAny (model prog w) A (Builtin.Re.reTarget "re.Pattern.match" "match" ⟨[.ref pat, .str x t], []⟩) Q E s := by
  unfold Builtin.Re.reTarget
  show wpAny _ _ (Builtin.Re.reNamed "re.Pattern.match" "match" ["string", "pos", "endpos"] 1 [.str x t] [] >>= _) Q E s
  rw [named3, pure_bind]
  refine wpAny_bind (wpAny_pure (wpAny_bind (wpAny_pure ?_)))
  refine wpAny_bind (wpAny_fieldsOf ho hd ?_)
  refine wpAny_bind (m := Builtin.Re.reTextOf (.str x t)) (wpAny_of_eq (a := (x.cps, 0)) rfl ?_)
  refine wpAny_bind (m := Builtin.Re.reNoCollectionInside (.str x t) 0) (wpAny_of_eq (a := ()) rfl ?_)
  refine wpAny_bind (m := Builtin.Re.reRawItems (.ref ct)) (wpAny_bind (wpAny_seqItems hc hcd (wpAny_pure (wpAny_pure ?_))))
  have e1 : (((some (C.map fun (k : Nat) => Value.int (k : Int) 0)).getD #[]).map Builtin.Re.reRawOf).map (fun i => i.toNat) = C := by
    show ((C.map fun (k : Nat) => Value.int (k : Int) 0).map Builtin.Re.reRawOf).map (fun i => i.toNat) = C
    rw [Array.map_map, Array.map_map]
    apply Array.ext_getElem?
    intro i
    rw [Array.getElem?_map]
    cases C[i]? <;> rfl
  rw [e1]
  have e2 : min (Int.toNat 0) x.cps.size = 0 := Nat.zero_min _
  have hx' : x.cps.size ≤ 1000 := hx
  have e3 : min (Int.toNat (2 ^ 63 - 1)) x.cps.size = x.length := by
    show min 9223372036854775807 x.cps.size = x.cps.size
    omega
  show Q { pattern := .ref pat, string := .str x t, code := C, text := x.cps, kind := 0, groups := 5, pos := min (Int.toNat 0) x.cps.size, lim := min (Int.toNat (2 ^ 63 - 1)) x.cps.size } s
  rw [e2, e3]
  exact hQ
/-- pattern.match(text) -/
theorem gm_match {pat ct : Addr} {C : Array Nat} {x : Str} {sp : Nat → List Nat → G → Option G}
    (hrec : ∃ p f g gi sl, (KF c.w).lookup pat = some ⟨.type "re.Pattern", none, .fields #[p, f, .int 5 g, .none, .none, .ref ct, .int 0 gi], sl⟩) (hct : ∃ cl d n sl, (KF c.w).lookup ct = some ⟨cl, d, .seq (C.map fun (k : Nat) => .int (k : Int) 0) n, sl⟩)
    (hrun : ∃ k, k + 4 ≤ 4 * 2 ^ 64 ∧ ∃ o, (stepN k (Sre.forMatch C x.cps 5 0 x.length false false)).outcome = some o ∧ match o with
      | .matched => ∃ g, sAll sp x.cps.toList = some g ∧ MK (stepN k (Sre.forMatch C x.cps 5 0 x.length false false)).marks (stepN k (Sre.forMatch C x.cps 5 0 x.length false false)).lastmark g ∧ okG g = true
      | .failed => sAll sp x.cps.toList = none
      | .stuck _ => False) (hx : x.length ≤ 1000) :
    GM c (.val (.ref pat)) "match" [ds x] [] (some (match sAll sp x.cps.toList with | some g => .mat x (spansOf g) | none => dn)) := by
  obtain ⟨pp, pf, pg, pgi, psl, hrec⟩ := hrec
  obtain ⟨cl, dc, nc, slc, hct⟩ := hct
  refine gm_of (id := "re.Pattern.match") (fun m news s v S hv pl Q E h => ?_) fun m news s v vs Q E S hv hvs hQ => ?_
  · obtain ⟨h₀, G⟩ := S.gr
    have ho := (G.X.keeps G.F.keep) _ _ hrec
    cases hv
    exact getMethod_builtin (T := "re.Pattern") ⟨_, ho, rfl⟩ pa_pat slot_match type_match (fun a e => by cases e; exact ⟨_, ho, rfl⟩) h
  · refine d1 (P := fun vs => wpAny c.M c.A (call (.builtin "re.Pattern.match") (v :: vs)) Q E s) (fun u hu => ?_) vs hvs
    obtain ⟨h₀, G⟩ := S.gr
    have ho := (G.X.keeps G.F.keep) _ _ hrec
    have hc := (G.X.keeps G.F.keep) _ _ hct
    cases hv
    cases hu with | dat hu => cases hu with | str _ t =>
    refine wpAny_call_entry slot_match ⟨_, ho, rfl⟩ entry_match ?_ (args_match _ _)
    unfold Builtin.«re.Pattern.match»
    refine wpAny_bind (target_ok ho rfl hc rfl hx ?_)
    unfold Builtin.Re.reAnswer
    obtain ⟨k, hk, o, hko, hm⟩ := hrun
    refine wpAny_bind (run_end hk ⟨o, hko, ?_⟩)
    cases o with
    | stuck => exact hm
    | failed =>
      have hm : sAll sp x.cps.toList = none := hm
      rw [hm] at hQ
      exact wpAny_pure ⟨_, rfl, hQ.ok (List.Subset.refl _) S (.dat .none)⟩
    | matched =>
      obtain ⟨g, hg, hmk, hok⟩ := hm
      rw [hg] at hQ
      refine wpAny_bind (new_match S hmk hok fun v n' s' hn S' hv => wpAny_pure ⟨_, rfl, hQ.ok hn S' hv⟩)
end
end Mine
end
end
section
open PySem PySem.W PyProof.Rows PySem.Spec PySem.Calls
set_option maxRecDepth 100000
set_option linter.unusedVariables false
set_option linter.unusedSimpArgs false
noncomputable section
namespace Mine
theorem nb_mat : typeLookup (.type "re.Match") "__bool__" = pure none := by rw [typeLookup_type, builtinLookup_eq_fast]; kernel_rfl
theorem nl_mat : typeLookup (.type "re.Match") "__len__" = pure none := by rw [typeLookup_type, builtinLookup_eq_fast]; kernel_rfl
def grpOf (t : Str) (sp : List Int) (k : Nat) : Dat :=
  if (sp.getD (2 * k) (-1) < 0 || sp.getD (2 * k + 1) (-1) < 0) = true then .none else .str ⟨t.cps.extract (sp.getD (2 * k) (-1)).toNat (sp.getD (2 * k + 1) (-1)).toNat⟩
section
variable {c : Cx} {m : Str → Option Value} {news news' : Led} {s s' : Shared} {ρ ρ' : Rho}
theorem ob_mat {t : Str} {sp : List Int} : OB c truthy (.mat t sp) (some true) := by
  intro m news s v Q E S hv hQ
  obtain ⟨h₀, G⟩ := S.gr
  cases hv with | mat ha hb =>
    have hT : s.TypeIs (.ref _) "re.Match" := ⟨_, (G.N _ ha).1, rfl⟩
    unfold truthy
    refine wpAny_bind (m := callSpecial? (.ref _) (Str.ofString "__bool__")) (wpAny_bind (wpAny_specialOf (name := Str.ofString "__bool__") hT nb_mat (wpAny_pure ?_)))
    refine wpAny_bind (wpAny_specialOf (name := Str.ofString "__len__") hT nl_mat ?_)
    exact wpAny_pure (hQ.ok (List.Subset.refl _) S)
theorem named1 : Builtin.Re.reNamed "re.Match.groups" "groups" ["default"] 0 [] [] = pure [none] := by kernel_rfl
theorem grp_ok {A : Around} {t : Str} {tk : Tok} {sp : List Int} {u v : Int} {fs : Array Value} {k : Nat} {Q : Value → Shared → Prop} {E : Value → Shared → Prop} (ht : t.length ≤ 1000) (hf : fs.getD 0 .none = .str t tk) (S : St c m news s)
    (hQ : ∀ v s', St c m news s' → DatIn news v (grpOf t sp k) → Q v s') : wpAny c.M A (Builtin.Re.reGroupText ⟨fs, (u :: v :: sp).toArray⟩ (k + 1) .none) Q E s := by
  unfold Builtin.Re.reGroupText
  have e1 : (u :: v :: sp).toArray.getD (2 * (k + 1)) (-1) = sp.getD (2 * k) (-1) := by
    rw [Array.getD_eq_getD_getElem?, List.getElem?_toArray]
    rfl
  have e2 : (u :: v :: sp).toArray.getD (2 * (k + 1) + 1) (-1) = sp.getD (2 * k + 1) (-1) := by
    rw [Array.getD_eq_getD_getElem?, List.getElem?_toArray]
    rfl
  show wpAny _ _ (if (decide ((u :: v :: sp).toArray.getD (2 * (k + 1)) (-1) < 0) || decide ((u :: v :: sp).toArray.getD (2 * (k + 1) + 1) (-1) < 0)) = true then pure Value.none else _) _ _ _
  rw [e1, e2]
  refine wpAny_ite ?_
  unfold grpOf at hQ
  split
  · rename_i h
    rw [if_pos h] at hQ
    exact wpAny_pure (hQ _ _ S .none)
  · rename_i h
    rw [if_neg h] at hQ
    rw [hf]
    refine wpAny_bind (m := Builtin.Re.reTextOf (.str t tk)) (wpAny_of_eq (a := (t.cps, 0)) rfl ?_)
    refine wpAny_mkStr (x := ⟨t.cps.extract (sp.getD (2 * k) (-1)).toNat (sp.getD (2 * k + 1) (-1)).toNat⟩) (hQ _ _ S.toks2 (.str _ _)) ?_
    rw [sizeLine_eq]
    show (t.cps.extract _ _).size ≤ _
    have ht' : t.cps.size ≤ 1000 := ht
    rw [Array.size_extract]; omega
theorem grps_ok {A : Around} {t : Str} {tk : Tok} {sp : List Int} {u v : Int} {fs : Array Value} (ht : t.length ≤ 1000) (hf : fs.getD 0 .none = .str t tk) : ∀ (l : List Nat) {m : Str → Option Value} {news : Led} {s : Shared} {Q : List Value → Shared → Prop} {E : Value → Shared → Prop}, St c m news s →
    (∀ vs s', St c m news s' → DatAll news vs (l.map (grpOf t sp)) → Q vs s') → wpAny c.M A (l.mapM fun g => Builtin.Re.reGroupText ⟨fs, (u :: v :: sp).toArray⟩ (g + 1) .none) Q E s
  | [], m, news, s, Q, E, S, hQ => by
    rw [List.mapM_nil]
    exact wpAny_pure (hQ _ _ S .nil)
  | k :: l, m, news, s, Q, E, S, hQ => by
    rw [List.mapM_cons]
    refine wpAny_bind (grp_ok ht hf S fun v' s' S' hv => wpAny_bind (grps_ok ht hf l S' fun vs s2 S2 hvs => wpAny_pure (hQ _ _ S2 (.cons hv hvs))))
theorem gm_groups {t : Str} {sp : List Int} (ht : t.length ≤ 1000) (hsp : sp.length = 10) : GM c (.mat t sp) "groups" [] [] (some (dt ((List.range 5).map (grpOf t sp)))) := by
  refine gm_of (id := "re.Match.groups") (fun m news s v S hv pl Q E h => ?_) fun m news s v vs Q E S hv hvs hQ => ?_
  · obtain ⟨h₀, G⟩ := S.gr
    cases hv with | mat ha hb => exact getMethod_builtin (T := "re.Match") ⟨_, (G.N _ ha).1, rfl⟩ pa_mat slot_groups type_groups (fun a e => by cases e; exact ⟨_, (G.N _ ha).1, rfl⟩) h
  · refine d0 (P := fun vs => wpAny c.M c.A (call (.builtin "re.Match.groups") (v :: vs)) Q E s) ?_ vs hvs
    obtain ⟨h₀, G⟩ := S.gr
    cases hv with | mat ha hb =>
    rename_i x tp tk p a b li u v
    have ho := (G.N _ ha).1
    have hc := (G.N _ hb).1
    refine wpAny_call_entry slot_groups ⟨_, ho, rfl⟩ entry_groups ?_ (args_groups _)
    unfold Builtin.«re.Match.groups» Builtin.Re.reWithDefault
    show wpAny _ _ ((Builtin.Re.reNamed "re.Match.groups" "groups" ["default"] 0 [] [] >>= _) >>= _) _ _ _
    rw [named1, pure_bind]
    refine wpAny_bind (wpAny_bind ?_)
    unfold Builtin.Re.reFound
    refine wpAny_bind (wpAny_fieldsOf ho rfl ?_)
    refine wpAny_bind (m := Builtin.Re.reRawItems (.ref tp)) (wpAny_bind (wpAny_seqItems hc rfl (wpAny_pure (wpAny_pure (wpAny_pure ?_)))))
    have e1 : ((some (u :: v :: sp.map rawInt).toArray).getD #[]).map Builtin.Re.reRawOf = (Builtin.Re.reRawOf u :: Builtin.Re.reRawOf v :: sp).toArray := by
      show ((u :: v :: sp.map rawInt).toArray).map Builtin.Re.reRawOf = _
      rw [List.map_toArray, List.map_cons, List.map_cons, List.map_map]
      have : (Builtin.Re.reRawOf ∘ rawInt) = id := by funext i; rfl
      rw [this, List.map_id]
    rw [e1]
    have e2 : (Builtin.Re.reRawOf u :: Builtin.Re.reRawOf v :: sp).toArray.size / 2 - 1 = 5 := by
      rw [List.size_toArray, List.length_cons, List.length_cons, hsp]
    show wpAny _ _ ((List.range ((Builtin.Re.reRawOf u :: Builtin.Re.reRawOf v :: sp).toArray.size / 2 - 1)).mapM _ >>= _) _ _ _
    rw [e2]
    refine wpAny_bind (grps_ok ht rfl _ S fun vs s' S' hvs => ?_)
    obtain ⟨h₀', G'⟩ := S'.gr
    refine wpAny_bind (newTuple_N G'.F G'.N (fun h' F N => wpAny_pure ⟨_, rfl, ?_⟩) ?_)
    · exact hQ.ok (List.subset_cons_self _ _) (s' := { s' with heap := h' }) (S'.heap ⟨h₀', G'.at F N⟩) (.dat (.tuple (List.mem_cons_self ..) (hvs.mono fun _ hp => List.mem_cons_of_mem _ hp)))
    · rw [lenOf hvs, sizeLine_eq]; simp
end
/-! the two patterns -/
def G4 (l : List Nat) : Option G := sAll sY4 l
def G3 (l : List Nat) : Option G := sAll sY3 l
def M0 (C T : Array Nat) : Sre.M := mk C T 5 0 (Array.replicate 10 none) (-1) (-1) #[] none [] 0 0 (({} : Sre.Seen).add 14) true none
theorem fm4 (T : Array Nat) : Sre.forMatch code4 T 5 0 T.size false false = if ((1 : Nat) != 0 && decide (0 ≤ T.size) && decide (T.size - 0 < 1)) = true then { M0 code4 T with answer := some false } else M0 code4 T := by kernel_rfl
theorem fm3 (T : Array Nat) : Sre.forMatch code3 T 5 0 T.size false false = if ((5 : Nat) != 0 && decide (0 ≤ T.size) && decide (T.size - 0 < 5)) = true then { M0 code3 T with answer := some false } else M0 code3 T := by kernel_rfl
theorem run_of {C : Array Nat} {x : Str} {N hl : Nat} {r : Option G} (hN : N + 10 ≤ 2 ^ 65) (h : R C x.cps K0 0 5 0 [] N r)
    (hh : Sre.forMatch C x.cps 5 0 x.cps.size false false = if (hl != 0 && decide (0 ≤ x.cps.size) && decide (x.cps.size - 0 < hl)) = true then { M0 C x.cps with answer := some false } else M0 C x.cps) (hok : ∀ g, r = some g → okG g = true) (hlen : x.length < hl → r = none) :
    ∃ k, k + 4 ≤ 4 * 2 ^ 64 ∧ ∃ o, (stepN k (Sre.forMatch C x.cps 5 0 x.length false false)).outcome = some o ∧ match o with
      | .matched => ∃ g, r = some g ∧ MK (stepN k (Sre.forMatch C x.cps 5 0 x.length false false)).marks (stepN k (Sre.forMatch C x.cps 5 0 x.length false false)).lastmark g ∧ okG g = true
      | .failed => r = none
      | .stuck _ => False := by
  have hh' : Sre.forMatch C x.cps 5 0 x.length false false = _ := hh
  rw [hh']
  by_cases hc : (hl != 0 && decide (0 ≤ x.cps.size) && decide (x.cps.size - 0 < hl)) = true
  · have hlt : x.length < hl := by
      have := (Bool.and_eq_true_iff.mp hc).2
      have := of_decide_eq_true this
      exact this
    have hr := hlen hlt
    subst hr
    rw [if_pos hc]
    exact ⟨1, by decide, .failed, rfl, rfl⟩
  · rw [if_neg hc]
    obtain ⟨k, hk, hr⟩ := h (Array.replicate 10 none) (-1) (-1) #[] none [] 0 0 (({} : Sre.Seen).add 14) true ⟨⟨by simp, by simp, fun i hi => by simp at hi⟩, rfl⟩ ⟨fun _ q => by simp at q, Nat.le_refl _, Nat.le_refl _⟩ rfl
    cases r with
    | some g =>
      obtain ⟨⟨o, ho, hm⟩, hmk⟩ := hr
      refine ⟨k, by omega, o, ho, ?_⟩
      cases o with
      | matched => exact ⟨g, rfl, hmk, hok g rfl⟩
      | failed => exact hm.elim
      | stuck => exact hm.elim
    | none =>
      obtain ⟨pc, pos, ms, lm, li, hd, se, ob, hp, e2⟩ := hr
      refine ⟨k + 1, by omega, .failed, ?_, rfl⟩
      rw [stepN_add]
      show (stepN 1 (stepN k (mk C x.cps 5 0 (Array.replicate 10 none) (-1) (-1) #[] none [] 0 0 (({} : Sre.Seen).add 14) true none))).outcome = _
      rw [e2, stepN1]
      rfl
end Mine
end
end
section
open PySem PySem.W PyProof.Rows PySem.Spec PySem.Calls
set_option maxRecDepth 100000
set_option linter.unusedVariables false
noncomputable section
namespace Mine
local macro_rules | `(tactic| walk_at "leaf") => `(tactic| first | exact ev_str | exact ev_int | exact ev_none | exact ev_bool | exact ev_local (by assumption) (by with_unfolding_all rfl) (by kernel_rfl) (by kernel_rfl))
def sX (p : Bool) : Nat → List Nat → G → Option G := if p then sY4 else sY3
def cX (p : Bool) : Array Nat := if p then code4 else code3
/-- what the machine comes to on x -/
def RunOk (p : Bool) (x : Str) : Prop := ∃ k, k + 4 ≤ 4 * 2 ^ 64 ∧ ∃ o, (stepN k (Sre.forMatch (cX p) x.cps 5 0 x.length false false)).outcome = some o ∧ match o with
      | .matched => ∃ g, sAll (sX p) x.cps.toList = some g ∧ MK (stepN k (Sre.forMatch (cX p) x.cps 5 0 x.length false false)).marks (stepN k (Sre.forMatch (cX p) x.cps 5 0 x.length false false)).lastmark g ∧ okG g = true
      | .failed => sAll (sX p) x.cps.toList = none
      | .stuck _ => False
theorem gm_re {c : Cx} {p : Bool} {x : Str} (h : RunOk p x) (hx : x.length ≤ 1000) : GM c (.val (.ref (if p then 48 else 43))) "match" [ds x] [] (some (match sAll (sX p) x.cps.toList with | some g => .mat x (spansOf g) | none => dn)) := by
  cases p
  · exact gm_match (k43 c.w) (k42 c.w) h hx
  · exact gm_match (k48 c.w) (k47 c.w) h hx
theorem gm_re_no {c : Cx} {p : Bool} {x : Str} (hr : RunOk p x) (hx : x.length ≤ 1000) (h : sAll (sX p) x.cps.toList = none) : GM c (.val (.ref (if p then 48 else 43))) "match" [ds x] [] (some dn) := by
  have q := gm_re (c := c) hr hx
  rw [h] at q; exact q
theorem gm_re_yes {c : Cx} {p : Bool} {x : Str} {g : G} (hr : RunOk p x) (hx : x.length ≤ 1000) (h : sAll (sX p) x.cps.toList = some g) : GM c (.val (.ref (if p then 48 else 43))) "match" [ds x] [] (some (.mat x (spansOf g))) := by
  have q := gm_re (c := c) hr hx
  rw [h] at q; exact q
inductive PForm (p : Bool) (x : Str) : List D → List (Str × D) → Prop
  | pos : PForm p x [vcls, ds x, db p] []
  | kw : PForm p x [vcls, ds x] [("partial", db p)]
  | dflt (h : p = false) : PForm p x [vcls, ds x] []
def kdsP (p : Bool) (x : Str) : List (Str × D) := [("cls", vcls), ("version_string", ds x), ("partial", db p), ("coerce", db false)]
set_option maxHeartbeats 2000000 in
theorem fn_parse_no (w : World) {p : Bool} {x : Str} {args : List D} {kw : List (Str × D)} (hf : PForm p x args kw) (hx : x.length ≤ 300) (hs : Shown x) (hr : RunOk p x) (h : sAll (sX p) x.cps.toList = none) : FN w 2 false 351 args kw none := by
  refine fn_of (f := 351) (ho := by with_unfolding_all rfl) (by kernel_rfl) (o := .err) (binds_ok (kdsP p x) (fun news vs kvs s X a b => ?_) rfl) rfl (fun _ => rfl) (fun mean mg mb base A₀ outer L g₀ os O => ?_) rfl rfl rfl (by simp)
  · cases hf with
    | pos =>
      obtain ⟨v, v', v'', rfl, a1, a2, a3⟩ := dall3 a
      obtain rfl := kall0 b
      exact ⟨[("cls", v), ("version_string", v'), ("partial", v''), ("coerce", .bool false)], binds_K X rfl (by with_unfolding_all rfl) rfl rfl rfl, rfl, a1, rfl, a2, rfl, a3, rfl, .dat (.bool false), trivial⟩
    | kw =>
      obtain ⟨v, v', rfl, a1, a2⟩ := dall2 a
      obtain ⟨v'', rfl, a3⟩ := kall1 b
      exact ⟨[("cls", v), ("version_string", v'), ("partial", v''), ("coerce", .bool false)], binds_K X rfl (by with_unfolding_all rfl) rfl rfl rfl, rfl, a1, rfl, a2, rfl, a3, rfl, .dat (.bool false), trivial⟩
    | dflt h =>
      subst h
      obtain ⟨v, v', rfl, a1, a2⟩ := dall2 a
      obtain rfl := kall0 b
      exact ⟨[("cls", v), ("version_string", v'), ("partial", .bool false), ("coerce", .bool false)], binds_K X rfl (by with_unfolding_all rfl) rfl rfl rfl, rfl, a1, rfl, a2, rfl, .dat (.bool false), rfl, .dat (.bool false), trivial⟩
  · have tp : topOk (.str x) := by show x.length < _; omega
    by_cases h0 : x.length = 0
    · have hb : (!truD (.str x)) = true := by show (!(x.length != 0)) = true; rw [h0]; rfl
      refine ex_err (ex_if (et_not (et_value (by walk_at "leaf") (ob_dat tp))) (fun _ => ex_one (ex_raise O (ev_binop (by walk_at "leaf") (by walk_at "leaf") (op_mod_r (Fm := Str.ofString "Invalid empty version string: %r") (T := Str.ofString "Invalid empty version string: ") rfl (by omega) pm_empty_text hs)) (by kernel_rfl) (k_VE _))) (fun q => by rw [hb] at q; cases q))
    · have hb : (!truD (.str x)) = false := by show (!(x.length != 0)) = false; simp; exact h0
      refine ex_cons (ex_if (et_not (et_value (by walk_at "leaf") (ob_dat tp))) (fun q => by rw [hb] at q; cases q) (fun _ => ex_nil)) ?_
      refine ex_cons (ρ' := upd (rho (kdsP p x)) "version_re" (.val (.ref (if p then 48 else 43)))) (ex_if (et_value (by walk_at "leaf") (ob_dat (x := .bool p) trivial)) (fun q => ?_) (fun q => ?_)) ?_
      · obtain rfl : p = true := q
        exact ex_one (ex_assign O (ev_attr (by walk_at "leaf") (ga_cls (by kernel_rfl) (by kernel_rfl) (by kernel_rfl) rfl)) (by kernel_rfl))
      · obtain rfl : p = false := q
        exact ex_one (ex_assign O (ev_attr (by walk_at "leaf") (ga_cls (by kernel_rfl) (by kernel_rfl) (by kernel_rfl) rfl)) (by kernel_rfl))
      refine ex_cons (ex_assign O (ev_method (by walk_at "leaf") (gm_re_no hr (by omega) h) (evs_cons (by walk_at "leaf") evs_nil) kws_nil) (by kernel_rfl)) ?_
      exact ex_err (ex_if (et_not (et_value (by walk_at "leaf") (ob_dat (x := .none) trivial))) (fun _ => ex_one (ex_raise O (ev_binop (by walk_at "leaf") (by walk_at "leaf") (op_mod_r (Fm := Str.ofString "Invalid version string: %r") (T := Str.ofString "Invalid version string: ") rfl (by omega) pm_text hs)) (by kernel_rfl) (k_VE _))) (fun q => by cases q))
end Mine
end
end
section
open PySem PySem.W PyProof.Rows PySem.Spec PySem.Calls
set_option maxRecDepth 100000
set_option linter.unusedVariables false
noncomputable section
namespace Mine
local macro_rules | `(tactic| walk_at "leaf") => `(tactic| first | exact ev_str | exact ev_int | exact ev_none | exact ev_bool | exact ev_local (by assumption) (by with_unfolding_all rfl) (by kernel_rfl) (by kernel_rfl) | exact ev_B (by assumption) (k_int _) Boot.int n_int (by kernel_rfl) (by kernel_rfl) | exact ev_B (by assumption) (k_tuple _) Boot.tuple n_tuple (by kernel_rfl) (by kernel_rfl))
def oD : Option Str → Dat
  | none => .none
  | some y => .str y
def nI (y : Str) : Int := (PySem.intText? y).getD 0
def oI : Option Str → Dat
  | none => .none
  | some y => .int (nI y)
def lzD : Option Str → Dat
  | none => .none
  | some y => .bool (lz y)
def lzO : Option Str → Bool
  | none => false
  | some y => lz y
def isNum (y : Str) : Prop := 0 < y.length ∧ y.length ≤ 600 ∧ (PySem.intText? y).isSome = true
def dot : Str := Str.ofString "."
def nil : Str := Str.ofString ""
def idsD (allow : Bool) (y : Str) : Option Dat := if (y == Str.ofString "") = true then some (.tuple []) else if (Txt.split y (Str.ofString ".")).all (okI allow) = true then some (.tuple ((Txt.split y (Str.ofString ".")).map .str)) else none
def psTail (p : Bool) (l : List Dat) (d : Dat) : Option Str → Option (List Dat)
  | none => some (l ++ [d, if p then .none else .tuple []])
  | some z => match idsD true z with
    | none => none
    | some e => some (l ++ [d, e])
def psPre (p : Bool) (l : List Dat) (bu : Option Str) : Option Str → Option (List Dat)
  | none => if (p && bu.isNone) = true then some (l ++ [.none, .none]) else psTail p l (.tuple []) bu
  | some y => match idsD false y with
    | none => none
    | some d => psTail p l d bu
theorem psPre_some {p : Bool} {l : List Dat} {bu : Option Str} {y : Str} : psPre p l bu (some y) = match idsD false y with
    | none => none
    | some d => psTail p l d bu := rfl
theorem psTail_some {p : Bool} {l : List Dat} {d : Dat} {y : Str} : psTail p l d (some y) = match idsD true y with
    | none => none
    | some e => some (l ++ [d, e]) := rfl
def psG (p : Bool) (maj : Str) (mi pa pre bu : Option Str) : Option (List Dat) :=
  if lz maj = true then none else if lzO mi = true then none else if lzO pa = true then none else psPre p [.int (nI maj), oI mi, oI pa] bu pre
/-- a text that split and the check of its parts may have -/
structure SplitOk (y : Str) : Prop where
  len : y.length ≤ 300
  each : ∀ x ∈ Txt.split y (Str.ofString "."), x.length ≤ 1000 ∧ Shown x
  sum : ((Txt.split y (Str.ofString ".")).map (·.length)).sum + (Txt.split y (Str.ofString ".")).length * 1 ≤ 16777216
  join : Shown (Txt.join (Str.ofString ".") (Txt.split y (Str.ofString ".")))
  many : (Txt.split y (Str.ofString ".")).length ≤ 1000
theorem fn_hlzO (w : World) {o : Option Str} (h : ∀ y, o = some y → isNum y) : FN w 0 false 65 [.dat (oD o)] [] (some (.dat (lzD o))) := by
  cases o with
  | none => exact fn_hlz_none w
  | some y => exact fn_hlz w y (by have := (h y rfl).2.1; omega) (h y rfl).1
theorem tru_lzD (o : Option Str) : truD (lzD o) = lzO o := by cases o <;> rfl
theorem top_lzD (o : Option Str) : topOk (lzD o) := by cases o <;> trivial
theorem nI_eq {y : Str} (h : isNum y) : PySem.intText? y = some (nI y) := by
  unfold nI
  obtain ⟨v, hv⟩ := Option.isSome_iff_exists.mp h.2.2
  rw [hv]; rfl
theorem fn_coerceO (w : World) {p : Bool} {o : Option Str} (h : ∀ y, o = some y → isNum y) (hp : o = none → p = true) : FN w 0 false 300 [vcls, .dat (oD o), db p] [] (some (.dat (oI o))) := by
  cases o with
  | none =>
    obtain rfl := hp rfl
    exact fn_coerce (.inl ⟨rfl, rfl, rfl⟩)
  | some y => exact fn_coerce (.inr (.inr ⟨y, nI y, rfl, nI_eq (h y rfl), by have := (h y rfl).2.1; omega, rfl⟩))
theorem k_hlz (w : World) : nsIn (KF w) mainGlobals "_has_leading_zero" = some (some (.ref 65)) := by kernel_rfl
theorem ev_hlz {c : Cx} {ρ : Rho} (O : c.Ok) (hr : 0 < c.rk) {p pos : Pos} {e : Expr} {o : Option Str} (he : EV c ρ e (some (.dat (oD o)))) (h : ∀ y, o = some y → isNum y) (hl : c.en.kindOf "_has_leading_zero" = some .globalImplicit)
    (hs : starEach [e] c.en = (false, eval e c.en) :: starEach [] c.en) : EV c ρ (.Call (.Name "_has_leading_zero" p) [e] [] pos) (some (.dat (lzD o))) :=
  ev_call (ev_K O (k_hlz _) hl (by decide +kernel)) (evs_cons he evs_nil hs) kws_nil fun _ => callable_fn O (fn_hlzO c.w h) hr (fun q => by cases q) (by kernel_rfl)
theorem ev_coerce {c : Cx} {ρ : Rho} (O : c.Ok) (hr : 0 < c.rk) {ap pos : Pos} {e1 e2 : Expr} {n : Expr} {p : Bool} {o : Option Str} (h0 : EV c ρ n (some vcls)) (he : EV c ρ e1 (some (.dat (oD o)))) (he2 : EV c ρ e2 (some (db p))) (h : ∀ y, o = some y → isNum y) (hp : o = none → p = true)
    (hs : starEach [e1, e2] c.en = (false, eval e1 c.en) :: starEach [e2] c.en) (hs2 : starEach [e2] c.en = (false, eval e2 c.en) :: starEach [] c.en) {pl : Sem Bool}
    (he3 : eval (.Call (.Attribute n "_coerce" ap) [e1, e2] [] pos) c.en = (do
      let ov ← eval n c.en
      standAt ap.atName
      let (f, first) ← holding [ov] (getMethod ov "_coerce" pl)
      callWith pos f first (backTo pos (starEach [e1, e2] c.en)) (backToKw pos (keywordEach [] c.en)))) : EV c ρ (.Call (.Attribute n "_coerce" ap) [e1, e2] [] pos) (some (.dat (oI o))) :=
  ev_method h0 (gm_cls_cm (p := 302) O (fn_coerceO c.w h hp) hr (fun q => by cases q) (by kernel_rfl) (by kernel_rfl) (by kernel_rfl) (by kernel_rfl) (rest := [.bool false]) (by kernel_rfl) (by kernel_rfl)) (evs_cons he (evs_cons he2 evs_nil hs2) hs) kws_nil he3
theorem isN_oD (o : Option Str) : isN (.dat (oD o)) = o.isNone := by cases o <;> rfl
theorem fn_validY {w : World} {y : Str} {allow : Bool} (h : SplitOk y) : FN w 1 false 362 [vcls, dt ((Txt.split y (Str.ofString ".")).map .str)] [("allow_leading_zeroes", db allow)] (if (Txt.split y (Str.ofString ".")).all (okI allow) = true then some dn else none) :=
  fn_valid w _ allow h.each h.sum h.join
theorem ev_valid {c : Cx} {ρ : Rho} (O : c.Ok) (hr : 1 < c.rk) {ap pos kp : Pos} {e1 e2 n : Expr} {allow : Bool} {y : Str} (hy : SplitOk y) (h0 : EV c ρ n (some vcls)) (he : EV c ρ e1 (some (dt ((Txt.split y (Str.ofString ".")).map .str)))) (he2 : EV c ρ e2 (some (db allow)))
    (hs : starEach [e1] c.en = (false, eval e1 c.en) :: starEach [] c.en) {pl : Sem Bool}
    (he3 : eval (.Call (.Attribute n "_validate_identifiers" ap) [e1] [⟨some "allow_leading_zeroes", e2, kp⟩] pos) c.en = (do
      let ov ← eval n c.en
      standAt ap.atName
      let (f, first) ← holding [ov] (getMethod ov "_validate_identifiers" pl)
      callWith pos f first (backTo pos (starEach [e1] c.en)) (backToKw pos (keywordEach [⟨some "allow_leading_zeroes", e2, kp⟩] c.en)))) : EV c ρ (.Call (.Attribute n "_validate_identifiers" ap) [e1] [⟨some "allow_leading_zeroes", e2, kp⟩] pos) (if (Txt.split y (Str.ofString ".")).all (okI allow) = true then some dn else none) :=
  ev_method h0 (gm_cls_cm (p := 364) O (fn_validY hy) hr (fun q => by cases q) (by kernel_rfl) (by kernel_rfl) (by kernel_rfl) (by kernel_rfl) (rest := [.bool false]) (by kernel_rfl) (by kernel_rfl)) (evs_cons he evs_nil hs) ⟨rfl, he2, trivial⟩ he3
theorem ev_valid_t {c : Cx} {ρ : Rho} {e : Expr} {l : List Str} {allow : Bool} (hall : l.all (okI allow) = true) (h : EV c ρ e (if l.all (okI allow) = true then some dn else none)) : EV c ρ e (some dn) := by rw [if_pos hall] at h; exact h
theorem ev_valid_f {c : Cx} {ρ : Rho} {e : Expr} {l : List Str} {allow : Bool} (hall : ¬ l.all (okI allow) = true) (h : EV c ρ e (if l.all (okI allow) = true then some dn else none)) : EV c ρ e none := by rw [if_neg hall] at h; exact h
theorem ev_split {c : Cx} {ρ : Rho} (O : c.Ok) {tp ap pos pos' : Pos} {e s : Expr} {y : Str} (hy : SplitOk y) (he : EV c ρ e (some (ds y))) (hd : EV c ρ s (some (ds (Str.ofString ".")))) (hl : c.en.kindOf "tuple" = some .globalImplicit)
    (h1 : starEach [s] c.en = (false, eval s c.en) :: starEach [] c.en) {pl : Sem Bool}
    (he3 : eval (.Call (.Attribute e "split" ap) [s] [] pos) c.en = (do
      let ov ← eval e c.en
      standAt ap.atName
      let (f, first) ← holding [ov] (getMethod ov "split" pl)
      callWith pos f first (backTo pos (starEach [s] c.en)) (backToKw pos (keywordEach [] c.en))))
    (h2 : starEach [.Call (.Attribute e "split" ap) [s] [] pos] c.en = (false, eval (.Call (.Attribute e "split" ap) [s] [] pos) c.en) :: starEach [] c.en) :
    EV c ρ (.Call (.Name "tuple" tp) [.Call (.Attribute e "split" ap) [s] [] pos] [] pos') (some (dt ((Txt.split y (Str.ofString ".")).map .str))) :=
  ev_call (ev_B O (k_tuple _) Boot.tuple n_tuple hl (by decide +kernel)) (evs_cons (ev_method he (gm_split (by decide +kernel) (by have := hy.len; omega)) (evs_cons hd evs_nil h1) kws_nil he3) evs_nil h2) kws_nil fun _ => (cb_tuple_list (by rw [List.length_map]; exact hy.many)).callable (fun _ q => by cases q)
theorem idsD_cases {allow : Bool} {y : Str} : ((y == Str.ofString "") = true ∧ idsD allow y = some (.tuple [])) ∨ ((y == Str.ofString "") = false ∧ (Txt.split y (Str.ofString ".")).all (okI allow) = true ∧ idsD allow y = some (.tuple ((Txt.split y (Str.ofString ".")).map .str))) ∨ ((y == Str.ofString "") = false ∧ ¬ (Txt.split y (Str.ofString ".")).all (okI allow) = true ∧ idsD allow y = none) := by
  unfold idsD
  by_cases h1 : (y == Str.ofString "") = true
  · exact .inl ⟨h1, if_pos h1⟩
  · by_cases h2 : (Txt.split y (Str.ofString ".")).all (okI allow) = true
    · exact .inr (.inl ⟨Bool.eq_false_iff.mpr h1, h2, by rw [if_neg h1, if_pos h2]⟩)
    · exact .inr (.inr ⟨Bool.eq_false_iff.mpr h1, h2, by rw [if_neg h1, if_neg h2]⟩)
theorem ex_consU {c : Cx} {ρ : Rho} {x : Str} {d : D} {st : Stmt} {rest : List Stmt} {o : Out} (h : EX1 c ρ st (.next (upd ρ x d))) (k : EX c (upd ρ x d) rest o) : EX c ρ (st :: rest) o := ex_cons h k
theorem gm_groups5 {c : Cx} {t : Str} {sp : List Int} {l : List Dat} (ht : t.length ≤ 1000) (hsp : sp.length = 10) (hg : (List.range 5).map (grpOf t sp) = l) : GM c (.mat t sp) "groups" [] [] (some (dt l)) := hg ▸ gm_groups ht hsp
theorem isnum_some {y : Str} (h : isNum y) : ∀ z, some y = some z → isNum z := fun z e => by cases e; exact h
set_option maxHeartbeats 8000000 in
theorem fn_parse_yes (w : World) {p : Bool} {x : Str} {args : List D} {kw : List (Str × D)} (hf : PForm p x args kw) (hx : x.length ≤ 300) (hx0 : 0 < x.length) (hs : Shown x) (hr : RunOk p x) {g : G} (h : sAll (sX p) x.cps.toList = some g) {maj : Str} {mi pa pre bu : Option Str}
    (hsp : (spansOf g).length = 10) (hg : (List.range 5).map (grpOf x (spansOf g)) = [.str maj, oD mi, oD pa, oD pre, oD bu]) (n1 : isNum maj) (n2 : ∀ y, mi = some y → isNum y) (n3 : ∀ y, pa = some y → isNum y) (n4 : ∀ y, pre = some y → SplitOk y) (n5 : ∀ y, bu = some y → SplitOk y)
    (hp2 : mi = none → p = true) (hp3 : pa = none → p = true) : FN w 2 false 351 args kw ((psG p maj mi pa pre bu).map dt) := by
  refine fn_of (f := 351) (ho := by with_unfolding_all rfl) (by kernel_rfl) (o := match psG p maj mi pa pre bu with | some l => .ret (dt l) | none => .err) (binds_ok (kdsP p x) (fun news vs kvs s X a b => ?_) rfl) (by cases psG p maj mi pa pre bu <;> rfl) (fun _ => rfl) (fun mean mg mb base A₀ outer L g₀ os O => ?_) rfl rfl rfl (by simp)
  · cases hf with
    | pos =>
      obtain ⟨v, v', v'', rfl, a1, a2, a3⟩ := dall3 a
      obtain rfl := kall0 b
      exact ⟨[("cls", v), ("version_string", v'), ("partial", v''), ("coerce", .bool false)], binds_K X rfl (by with_unfolding_all rfl) rfl rfl rfl, rfl, a1, rfl, a2, rfl, a3, rfl, .dat (.bool false), trivial⟩
    | kw =>
      obtain ⟨v, v', rfl, a1, a2⟩ := dall2 a
      obtain ⟨v'', rfl, a3⟩ := kall1 b
      exact ⟨[("cls", v), ("version_string", v'), ("partial", v''), ("coerce", .bool false)], binds_K X rfl (by with_unfolding_all rfl) rfl rfl rfl, rfl, a1, rfl, a2, rfl, a3, rfl, .dat (.bool false), trivial⟩
    | dflt h =>
      subst h
      obtain ⟨v, v', rfl, a1, a2⟩ := dall2 a
      obtain rfl := kall0 b
      exact ⟨[("cls", v), ("version_string", v'), ("partial", .bool false), ("coerce", .bool false)], binds_K X rfl (by with_unfolding_all rfl) rfl rfl rfl, rfl, a1, rfl, a2, rfl, .dat (.bool false), rfl, .dat (.bool false), trivial⟩
  · have tp : topOk (.str x) := by show x.length < _; omega
    have hb : (!truD (.str x)) = false := by show (!(x.length != 0)) = false; simp; omega
    refine ex_cons (ex_if (et_not (et_value (by walk_at "leaf") (ob_dat tp))) (fun q => by rw [hb] at q; cases q) (fun _ => ex_nil)) ?_
    refine ex_cons (ρ' := upd (rho (kdsP p x)) "version_re" (.val (.ref (if p then 48 else 43)))) (ex_if (et_value (by walk_at "leaf") (ob_dat (x := .bool p) trivial)) (fun q => ?_) (fun q => ?_)) ?_
    · obtain rfl : p = true := q
      exact ex_one (ex_assign O (ev_attr (by walk_at "leaf") (ga_cls (by kernel_rfl) (by kernel_rfl) (by kernel_rfl) rfl)) (by kernel_rfl))
    · obtain rfl : p = false := q
      exact ex_one (ex_assign O (ev_attr (by walk_at "leaf") (ga_cls (by kernel_rfl) (by kernel_rfl) (by kernel_rfl) rfl)) (by kernel_rfl))
    refine ex_cons (ex_assign O (ev_method (by walk_at "leaf") (gm_re_yes hr (by omega) h) (evs_cons (by walk_at "leaf") evs_nil) kws_nil) (by kernel_rfl)) ?_
    refine ex_cons (ex_if (et_not (et_value (by walk_at "leaf") ob_mat)) (fun q => by cases q) (fun _ => ex_nil)) ?_
    refine ex_cons (ex_unpack O (ev_method (by walk_at "leaf") (gm_groups5 (by omega) hsp hg) evs_nil kws_nil) (xs := ["major", "minor", "patch", "prerelease", "build"]) ⟨⟨_, rfl⟩, by kernel_rfl, ⟨_, rfl⟩, by kernel_rfl, ⟨_, rfl⟩, by kernel_rfl, ⟨_, rfl⟩, by kernel_rfl, ⟨_, rfl⟩, by kernel_rfl, trivial⟩ rfl) ?_
    by_cases z1 : lz maj = true
    · have e : psG p maj mi pa pre bu = none := if_pos z1
      rw [e]
      exact ex_err (ex_if (et_value (ev_hlz O (Nat.zero_lt_succ 1) (o := some maj) (by walk_at "leaf") (isnum_some n1) (by kernel_rfl) rfl) (ob_dat (top_lzD _))) (fun _ => ex_one (ex_raise O (ev_binop (by walk_at "leaf") (by walk_at "leaf") (op_mod_r (Fm := Str.ofString "Invalid leading zero in major: %r") (T := Str.ofString "Invalid leading zero in major: ") rfl (by omega) pm_major hs)) (by kernel_rfl) (k_VE _))) (fun q => by rw [tru_lzD] at q; exact absurd (q.symm.trans z1) (by decide)))
    refine ex_cons (ex_if (et_value (ev_hlz O (Nat.zero_lt_succ 1) (o := some maj) (by walk_at "leaf") (isnum_some n1) (by kernel_rfl) rfl) (ob_dat (top_lzD _))) (fun q => absurd q (by rw [tru_lzD]; exact z1)) (fun _ => ex_nil)) ?_
    by_cases z2 : lzO mi = true
    · have e : psG p maj mi pa pre bu = none := (if_neg z1).trans (if_pos z2)
      rw [e]
      exact ex_err (ex_if (et_value (ev_hlz O (Nat.zero_lt_succ 1) (o := mi) (by walk_at "leaf") n2 (by kernel_rfl) rfl) (ob_dat (top_lzD _))) (fun _ => ex_one (ex_raise O (ev_binop (by walk_at "leaf") (by walk_at "leaf") (op_mod_r (Fm := Str.ofString "Invalid leading zero in minor: %r") (T := Str.ofString "Invalid leading zero in minor: ") rfl (by omega) pm_minor hs)) (by kernel_rfl) (k_VE _))) (fun q => by rw [tru_lzD] at q; exact absurd (q.symm.trans z2) (by decide)))
    refine ex_cons (ex_if (et_value (ev_hlz O (Nat.zero_lt_succ 1) (o := mi) (by walk_at "leaf") n2 (by kernel_rfl) rfl) (ob_dat (top_lzD _))) (fun q => absurd q (by rw [tru_lzD]; exact z2)) (fun _ => ex_nil)) ?_
    by_cases z3 : lzO pa = true
    · have e : psG p maj mi pa pre bu = none := (if_neg z1).trans ((if_neg z2).trans (if_pos z3))
      rw [e]
      exact ex_err (ex_if (et_value (ev_hlz O (Nat.zero_lt_succ 1) (o := pa) (by walk_at "leaf") n3 (by kernel_rfl) rfl) (ob_dat (top_lzD _))) (fun _ => ex_one (ex_raise O (ev_binop (by walk_at "leaf") (by walk_at "leaf") (op_mod_r (Fm := Str.ofString "Invalid leading zero in patch: %r") (T := Str.ofString "Invalid leading zero in patch: ") rfl (by omega) pm_patch hs)) (by kernel_rfl) (k_VE _))) (fun q => by rw [tru_lzD] at q; exact absurd (q.symm.trans z3) (by decide)))
    refine ex_cons (ex_if (et_value (ev_hlz O (Nat.zero_lt_succ 1) (o := pa) (by walk_at "leaf") n3 (by kernel_rfl) rfl) (ob_dat (top_lzD _))) (fun q => absurd q (by rw [tru_lzD]; exact z3)) (fun _ => ex_nil)) ?_
    refine ex_cons (ex_assign O (ev_call (by walk_at "leaf") (evs_cons (by walk_at "leaf") evs_nil) kws_nil fun _ => (cb_int (nI_eq n1) (by have := n1.2.1; omega)).callable (fun _ q => by cases q)) (by kernel_rfl)) ?_
    refine ex_cons (ex_assign O (ev_coerce O (Nat.zero_lt_succ 1) (p := p) (o := mi) (by walk_at "leaf") (by walk_at "leaf") (by walk_at "leaf") n2 hp2 rfl rfl rfl) (by kernel_rfl)) ?_
    refine ex_cons (ex_assign O (ev_coerce O (Nat.zero_lt_succ 1) (p := p) (o := pa) (by walk_at "leaf") (by walk_at "leaf") (by walk_at "leaf") n3 hp3 rfl rfl rfl) (by kernel_rfl)) ?_
    have e0 : psG p maj mi pa pre bu = psPre p [.int (nI maj), oI mi, oI pa] bu pre := (if_neg z1).trans ((if_neg z2).trans (if_neg z3))
    rw [e0]
    by_cases early : pre = none ∧ (p && bu.isNone) = true
    · obtain ⟨rfl, hpb⟩ := early
      have e : psPre p [.int (nI maj), oI mi, oI pa] bu none = some [.int (nI maj), oI mi, oI pa, .none, .none] := if_pos hpb
      rw [e]
      refine ex_ret (ex_if (et_compare (d₁ := dn) (by walk_at "leaf") (by walk_at "leaf") op_is_none) (fun _ => ex_ret (ex_if (et_boolop (ets_and (et_value (by walk_at "leaf") (ob_dat (x := .bool p) trivial)) fun _ => ets_and (et_compare (d₁ := .dat (oD bu)) (by walk_at "leaf") (by walk_at "leaf") op_is_none) fun _ => ets_and_nil)) (fun _ => ex_ret (ex_return (ev_tuple (l := [.int (nI maj), oI mi, oI pa, .none, .none]) (evs_cons (by walk_at "leaf") (evs_cons (by walk_at "leaf") (evs_cons (by walk_at "leaf") (evs_cons (by walk_at "leaf") (evs_cons (by walk_at "leaf") evs_nil))))) (by show 5 ≤ 1000; decide)))) (fun q => ?_))) (fun q => by cases q))
      exfalso
      rw [isN_oD] at q
      revert hpb q
      show _ → (p && (bu.isNone && true)) = false → False
      cases p <;> cases bu.isNone <;> simp
    -- the reading of the prerelease
    have H : (∃ d, psPre p [.int (nI maj), oI mi, oI pa] bu pre = psTail p [.int (nI maj), oI mi, oI pa] d bu ∧ ((pre = none ∧ d = .tuple []) ∨ (∃ y, pre = some y ∧ (y == Str.ofString "") = true ∧ d = .tuple []) ∨ ∃ y, pre = some y ∧ (y == Str.ofString "") = false ∧ (Txt.split y (Str.ofString ".")).all (okI false) = true ∧ d = .tuple ((Txt.split y (Str.ofString ".")).map .str))) ∨
        (∃ y, pre = some y ∧ (y == Str.ofString "") = false ∧ ¬ (Txt.split y (Str.ofString ".")).all (okI false) = true ∧ psPre p [.int (nI maj), oI mi, oI pa] bu pre = none) := by
      cases hpre : pre with
      | none => exact .inl ⟨.tuple [], if_neg (fun q => early ⟨hpre, q⟩), .inl ⟨rfl, rfl⟩⟩
      | some y =>
        rcases idsD_cases (allow := false) (y := y) with ⟨a, b⟩ | ⟨a, b, c⟩ | ⟨a, b, c⟩
        · exact .inl ⟨_, by rw [psPre_some, b], .inr (.inl ⟨y, rfl, a, rfl⟩)⟩
        · exact .inl ⟨_, by rw [psPre_some, c], .inr (.inr ⟨y, rfl, a, b, rfl⟩)⟩
        · exact .inr ⟨y, rfl, a, b, by rw [psPre_some, c]⟩
    rcases H with ⟨d, hps, H⟩ | ⟨y, rfl, hy0, hall, hps⟩
    · rw [hps]
      clear hps e0
      refine ex_consU (x := "prerelease") (d := .dat d) ?_ ?_
      · rcases H with ⟨rfl, rfl⟩ | ⟨y, rfl, hy0, rfl⟩ | ⟨y, rfl, hy0, hall, rfl⟩
        · refine ex_if (et_compare (d₁ := dn) (by walk_at "leaf") (by walk_at "leaf") op_is_none) (fun _ => ex_one (ex_if (et_boolop (ets_and (et_value (by walk_at "leaf") (ob_dat (x := .bool p) trivial)) fun _ => ets_and (et_compare (d₁ := .dat (oD bu)) (by walk_at "leaf") (by walk_at "leaf") op_is_none) fun _ => ets_and_nil)) (fun q => ?_) (fun _ => ex_one (ex_assign O (ev_tuple (l := []) evs_nil (by decide)) (by kernel_rfl))))) (fun q => by cases q)
          exfalso
          refine early ⟨rfl, ?_⟩
          rw [isN_oD] at q
          revert q
          show (p && (bu.isNone && true)) = true → _
          cases p <;> cases bu.isNone <;> simp
        · exact ex_if (et_compare (d₁ := ds y) (by walk_at "leaf") (by walk_at "leaf") op_is_none) (fun q => by cases q) (fun _ => ex_one (ex_if (et_compare (by walk_at "leaf") (by walk_at "leaf") op_eq_str) (fun _ => ex_one (ex_assign O (ev_tuple (l := []) evs_nil (by decide)) (by kernel_rfl))) (fun q => absurd (q.symm.trans hy0) (by decide))))
        · exact ex_if (et_compare (d₁ := ds y) (by walk_at "leaf") (by walk_at "leaf") op_is_none) (fun q => by cases q) (fun _ => ex_one (ex_if (et_compare (by walk_at "leaf") (by walk_at "leaf") op_eq_str) (fun q => absurd (q.symm.trans hy0) (by decide)) (fun _ => ex_cons (ex_assign O (ev_split O (n4 y rfl) (by walk_at "leaf") (by walk_at "leaf") (by kernel_rfl) rfl rfl rfl) (by kernel_rfl)) (ex_one (ex_expr (ev_valid_t hall (ev_valid O (by show 1 < 2; decide) (n4 y rfl) (by walk_at "leaf") (by walk_at "leaf") (by walk_at "leaf") rfl rfl)))))))
      have H2 : (∃ e, psTail p [.int (nI maj), oI mi, oI pa] d bu = some [.int (nI maj), oI mi, oI pa, d, e] ∧ ((bu = none ∧ e = (if p then .none else .tuple [])) ∨ (∃ y, bu = some y ∧ (y == Str.ofString "") = true ∧ e = .tuple []) ∨ ∃ y, bu = some y ∧ (y == Str.ofString "") = false ∧ (Txt.split y (Str.ofString ".")).all (okI true) = true ∧ e = .tuple ((Txt.split y (Str.ofString ".")).map .str))) ∨
          (∃ y, bu = some y ∧ (y == Str.ofString "") = false ∧ ¬ (Txt.split y (Str.ofString ".")).all (okI true) = true ∧ psTail p [.int (nI maj), oI mi, oI pa] d bu = none) := by
        cases hbu : bu with
        | none => exact .inl ⟨_, rfl, .inl ⟨rfl, rfl⟩⟩
        | some y =>
          rcases idsD_cases (allow := true) (y := y) with ⟨a, b⟩ | ⟨a, b, c⟩ | ⟨a, b, c⟩
          · exact .inl ⟨_, by rw [psTail_some, b]; rfl, .inr (.inl ⟨y, rfl, a, rfl⟩)⟩
          · exact .inl ⟨_, by rw [psTail_some, c]; rfl, .inr (.inr ⟨y, rfl, a, b, rfl⟩)⟩
          · exact .inr ⟨y, rfl, a, b, by rw [psTail_some, c]⟩
      rcases H2 with ⟨e, hps, H2⟩ | ⟨y, rfl, hy0, hall, hps⟩
      · rw [hps]
        refine ex_consU (x := "build") (d := .dat e) ?_ (ex_ret (ex_return (ev_tuple (l := [.int (nI maj), oI mi, oI pa, d, e]) (evs_cons (by walk_at "leaf") (evs_cons (by walk_at "leaf") (evs_cons (by walk_at "leaf") (evs_cons (by walk_at "leaf") (evs_cons (by walk_at "leaf") evs_nil))))) (by show 5 ≤ 1000; decide))))
        rcases H2 with ⟨rfl, rfl⟩ | ⟨y, rfl, hy0, rfl⟩ | ⟨y, rfl, hy0, hall, rfl⟩
        · refine ex_if (et_compare (d₁ := dn) (by walk_at "leaf") (by walk_at "leaf") op_is_none) (fun _ => ex_one (ex_if (et_value (by walk_at "leaf") (ob_dat (x := .bool p) trivial)) (fun q => ?_) (fun q => ?_))) (fun q => by cases q)
          · obtain rfl : p = true := q
            exact ex_one (ex_assign O (by walk_at "leaf") (by kernel_rfl))
          · obtain rfl : p = false := q
            exact ex_one (ex_assign O (ev_tuple (l := []) evs_nil (by decide)) (by kernel_rfl))
        · exact ex_if (et_compare (d₁ := ds y) (by walk_at "leaf") (by walk_at "leaf") op_is_none) (fun q => by cases q) (fun _ => ex_one (ex_if (et_compare (by walk_at "leaf") (by walk_at "leaf") op_eq_str) (fun _ => ex_one (ex_assign O (ev_tuple (l := []) evs_nil (by decide)) (by kernel_rfl))) (fun q => absurd (q.symm.trans hy0) (by decide))))
        · exact ex_if (et_compare (d₁ := ds y) (by walk_at "leaf") (by walk_at "leaf") op_is_none) (fun q => by cases q) (fun _ => ex_one (ex_if (et_compare (by walk_at "leaf") (by walk_at "leaf") op_eq_str) (fun q => absurd (q.symm.trans hy0) (by decide)) (fun _ => ex_cons (ex_assign O (ev_split O (n5 y rfl) (by walk_at "leaf") (by walk_at "leaf") (by kernel_rfl) rfl rfl rfl) (by kernel_rfl)) (ex_one (ex_expr (ev_valid_t hall (ev_valid O (by show 1 < 2; decide) (n5 y rfl) (by walk_at "leaf") (by walk_at "leaf") (by walk_at "leaf") rfl rfl)))))))
      · rw [hps]
        exact ex_err (ex_if (et_compare (d₁ := ds y) (by walk_at "leaf") (by walk_at "leaf") op_is_none) (fun q => by cases q) (fun _ => ex_one (ex_if (et_compare (by walk_at "leaf") (by walk_at "leaf") op_eq_str) (fun q => absurd (q.symm.trans hy0) (by decide)) (fun _ => ex_cons (ex_assign O (ev_split O (n5 y rfl) (by walk_at "leaf") (by walk_at "leaf") (by kernel_rfl) rfl rfl rfl) (by kernel_rfl)) (ex_one (ex_expr_err (ev_valid_f hall (ev_valid O (by show 1 < 2; decide) (n5 y rfl) (by walk_at "leaf") (by walk_at "leaf") (by walk_at "leaf") rfl rfl))))))))
    · rw [hps]
      exact ex_err (ex_if (et_compare (d₁ := ds y) (by walk_at "leaf") (by walk_at "leaf") op_is_none) (fun q => by cases q) (fun _ => ex_one (ex_if (et_compare (by walk_at "leaf") (by walk_at "leaf") op_eq_str) (fun q => absurd (q.symm.trans hy0) (by decide)) (fun _ => ex_cons (ex_assign O (ev_split O (n4 y rfl) (by walk_at "leaf") (by walk_at "leaf") (by kernel_rfl) rfl rfl rfl) (by kernel_rfl)) (ex_one (ex_expr_err (ev_valid_f hall (ev_valid O (by show 1 < 2; decide) (n4 y rfl) (by walk_at "leaf") (by walk_at "leaf") (by walk_at "leaf") rfl rfl))))))))
end Mine
end
end
section
open PySem PySem.W PyProof.Rows PySem.Spec PySem.Calls
set_option maxRecDepth 100000
set_option linter.unusedVariables false
noncomputable section
namespace Mine
local macro_rules | `(tactic| walk_at "leaf") => `(tactic| first | exact ev_str | exact ev_int | exact ev_none | exact ev_bool | exact ev_local (by assumption) (by with_unfolding_all rfl) (by kernel_rfl) (by kernel_rfl) | exact ev_B (by assumption) (k_int _) Boot.int n_int (by kernel_rfl) (by kernel_rfl) | exact ev_B (by assumption) (k_tuple _) Boot.tuple n_tuple (by kernel_rfl) (by kernel_rfl) | exact ev_B (by assumption) (k_len _) Boot.len n_len (by kernel_rfl) (by kernel_rfl))
theorem k_ver (w : World) : nsIn (KF w) mainGlobals "Version" = some (some (.ref 457)) := by kernel_rfl
theorem gm_parse {c : Cx} (O : c.Ok) (hr : 2 < c.rk) {ds' : List D} {kds : List (Str × D)} {r : Option D} (h : FN c.w 2 false 351 (vcls :: ds') kds r) : GM c vcls "parse" ds' kds r :=
  gm_cls_cm (p := 353) O h hr (fun q => by cases q) (by kernel_rfl) (by kernel_rfl) (by kernel_rfl) (by kernel_rfl) (rest := [.bool false]) (by kernel_rfl) (by kernel_rfl)
theorem fn_validate (w : World) {x : Str} {r : Option D} (h : FN w 2 false 351 [vcls, ds x] [] r) : FN w 3 true 468 [ds x] [] (some (db r.isSome)) := by
  refine fn_of (f := 468) (ho := by with_unfolding_all rfl) (by kernel_rfl) (o := .ret (db r.isSome)) (binds_ok [("version_string", ds x)] (fun news vs kvs s X a b => ?_) rfl) rfl (fun q => by cases q) (fun mean mg mb base A₀ outer L g₀ os O => ?_) rfl rfl rfl (by simp)
  · obtain ⟨v, rfl, a1⟩ := dall1 a
    obtain rfl := kall0 b
    exact ⟨[("version_string", v)], BindsTo.of_eq rfl, rfl, a1, trivial⟩
  · exact ex_ret (ex_try_ret (p7 := ⟨0, 0, 0, 0⟩) O rfl (k_VE _) (by kernel_rfl) (ev_method (ev_K O (k_ver _) (by kernel_rfl) (by kernel_rfl)) (gm_parse O (by show 2 < 3; decide) h) (evs_cons (by walk_at "leaf") evs_nil) kws_nil) (fun h => wpAny_Expr_any h))
/-! _law_plain -/
def plS (x : Str) : Bool := (x != Str.ofString "") && x.cps.toList.all dg
theorem occ_dg : ∀ k, k < 128 → (!!List.isEmpty (Builtin.Str.occurrences (Str.ofString "0123456789") ⟨#[k]⟩ 0 (Str.length (Str.ofString "0123456789")) 1)) = !dg k := by decide +kernel
open Classical in
theorem op_eqB {c : Cx} {x y : Dat} {b : Bool} (O : c.Ok) (hx : kqdOk 9 x = true) (hy : kqdOk 9 y = true) (h : b = true ↔ x = y) : OP c (compareOp .Eq) (.dat x) (.dat y) (some (db b)) := by
  have := op_eq (c := c) O hx hy
  have e : b = decide (x = y) := by
    by_cases q : x = y
    · rw [decide_eq_true q]; exact h.mpr q
    · rw [decide_eq_false q]; exact Bool.eq_false_iff.mpr fun z => q (h.mp z)
  rw [e]; exact this
open Classical in
theorem op_neB {c : Cx} {x y : Dat} {b : Bool} (O : c.Ok) (hx : kqdOk 9 x = true) (hy : kqdOk 9 y = true) (h : b = true ↔ x = y) : OP c (compareOp .NotEq) (.dat x) (.dat y) (some (db (!b))) := by
  have := op_ne (c := c) O hx hy
  have e : b = decide (x = y) := by
    by_cases q : x = y
    · rw [decide_eq_true q]; exact h.mpr q
    · rw [decide_eq_false q]; exact Bool.eq_false_iff.mpr fun z => q (h.mp z)
  rw [e]; exact this
/-- signs of a text, those that pass -/
def keepD (f : Nat → Bool) (l : List Nat) : List Dat := (l.filter f).map fun k => .str ⟨#[k]⟩
theorem items_signs {c : Cx} {scope : Scope} {x : Str} {t elt : Expr} {f : Nat → Bool} (P : Nat → Prop) (h1 : ∀ k, P k → ∀ C m, (inC c (compEnvC scope [] C c.env) m).Ok → ET (inC c (compEnvC scope [] C c.env) m) (one x (.str ⟨#[k]⟩)) t (some (f k)) ∧ EV (inC c (compEnvC scope [] C c.env) m) (one x (.str ⟨#[k]⟩)) elt (some (ds ⟨#[k]⟩))) :
    ∀ (l : List Nat), (∀ k ∈ l, P k) → Items c scope x (some t) elt (l.map fun k => .str ⟨#[k]⟩) (keepD f l)
  | [], _ => rfl
  | k :: l, hl => by
    have ih := items_signs P h1 l fun k hk => hl k (List.mem_cons_of_mem _ hk)
    unfold keepD
    by_cases hf : f k = true
    · rw [List.filter_cons_of_pos hf]
      exact .inl ⟨_, _, fun C m O => by have := h1 k (hl k (List.mem_cons_self ..)) C m O; rw [hf] at this; exact ⟨this.1, this.2, rfl⟩, ih, rfl⟩
    · rw [List.filter_cons_of_neg hf]
      exact .inr ⟨fun C m O => by have := h1 k (hl k (List.mem_cons_self ..)) C m O; rw [Bool.eq_false_iff.mpr hf] at this; exact this.1, ih⟩
def AsciiS (x : Str) : Prop := ∀ k ∈ x.cps.toList, k < 128
theorem keep_ok {x : Str} {f : Nat → Bool} (hA : AsciiS x) : kqdOk 9 (.list (keepD f x.cps.toList)) = true := by
  show (keepD f x.cps.toList).all (kqdOk 8) = true
  rw [List.all_eq_true]
  intro d hd
  unfold keepD at hd
  obtain ⟨k, hk, rfl⟩ := List.mem_map.mp hd
  have := hA k (List.mem_filter.mp hk).1
  show PyData.strOk ⟨#[k]⟩ = true
  unfold PyData.strOk
  simp
  omega
theorem keep_nil (l : List Nat) : l.all dg = true ↔ Dat.list (keepD (fun k => !dg k) l) = Dat.list [] := by
  unfold keepD
  rw [Dat.list.injEq, List.map_eq_nil_iff, List.filter_eq_nil_iff, List.all_eq_true]
  constructor
  · intro h a ha; rw [h a ha]; simp
  · intro h a ha
    have := h a ha
    cases q : dg a
    · rw [q] at this; simp at this
    · rfl
theorem fn_plain (w : World) {x : Str} (hA : AsciiS x) (hx : x.length ≤ 1000) : FN w 0 false 502 [ds x] [] (some (db (plS x))) := by
  refine fn_of (f := 502) (ho := by with_unfolding_all rfl) (by kernel_rfl) (o := .ret (db (plS x))) (binds_ok [("part", ds x)] (fun news vs kvs s X a b => ?_) rfl) rfl (fun q => by cases q) (fun mean mg mb base A₀ outer L g₀ os O => ?_) rfl rfl rfl (by simp)
  · obtain ⟨v, rfl, a1⟩ := dall1 a
    obtain rfl := kall0 b
    exact ⟨[("part", v)], BindsTo.of_eq rfl, rfl, a1, trivial⟩
  · refine ex_ret (ex_return (ev_and (by exact ev_compare (by walk_at "leaf") (by walk_at "leaf") op_ne_str) (ob_dat (x := .bool _) trivial) (fun h1 => ev_bool_one ?_) (fun h1 => ?_)))
    · have e : plS x = x.cps.toList.all dg := by unfold plS; rw [show (x != Str.ofString "") = true from h1, Bool.true_and]
      rw [e]
      refine ev_compare (ev_comp_str (ct := some _) O rfl (by walk_at "leaf") (by omega) (items_signs (f := fun k => !dg k) (fun k => k < 128) (fun k hk C m OC => ⟨et_compare (ev_local OC (by with_unfolding_all rfl) (by kernel_rfl) (by kernel_rfl)) ev_str (occ_dg k hk ▸ op_notin_str), ev_local OC (by with_unfolding_all rfl) (by kernel_rfl) (by kernel_rfl)⟩) _ hA) (by kernel_rfl) (by simp) rfl (by decide +kernel) (by kernel_rfl)) (ev_list (l := []) evs_nil (by decide)) (op_eqB O (keep_ok hA) rfl (keep_nil _))
    · unfold plS
      rw [show (x != Str.ofString "") = false from h1]; rfl
end Mine
end
end
section
open PySem PySem.W PyProof.Rows PySem.Spec PySem.Calls
set_option maxRecDepth 100000
set_option linter.unusedVariables false
noncomputable section
namespace Mine
local macro_rules | `(tactic| walk_at "leaf") => `(tactic| first | exact ev_str | exact ev_int | exact ev_none | exact ev_bool | exact ev_local (by assumption) (by first | with_unfolding_all rfl | (unfold upd; rw [if_neg (by decide +kernel)]; assumption)) (by kernel_rfl) (by kernel_rfl) | exact ev_B (by assumption) (k_int _) Boot.int n_int (by kernel_rfl) (by kernel_rfl) | exact ev_B (by assumption) (k_tuple _) Boot.tuple n_tuple (by kernel_rfl) (by kernel_rfl) | exact ev_B (by assumption) (k_len _) Boot.len n_len (by kernel_rfl) (by kernel_rfl))
def okc (k : Nat) : Bool := dg k || (97 ≤ k && k ≤ 122) || (65 ≤ k && k ≤ 90) || k == 45
def lawok : Str := Str.ofString "0123456789abcdefghijklmnopqrstuvwxyzABCDEFGHIJKLMNOPQRSTUVWXYZ-"
theorem occ_okc : ∀ k, k < 128 → (!!List.isEmpty (Builtin.Str.occurrences lawok ⟨#[k]⟩ 0 (Str.length lawok) 1)) = !okc k := by decide +kernel
theorem k_ok (w : World) : ∃ t, nsIn (KF w) mainGlobals "_law_ok" = some (some (.str lawok t)) := ⟨_, by with_unfolding_all rfl⟩
def lz2 (x : Str) : Bool := decide ((1 : Int) < x.length) && (Txt.item x 0 == Str.ofString "0")
def okL (nought : Bool) (x : Str) : Bool := !(x == Str.ofString "") && (x.cps.toList.all okc) && !(nought && (decide ((1 : Int) < x.length) && ((Txt.item x 0 == Str.ofString "0") && plS x)))
def idsL (nought : Bool) (y : Str) : Dat := if (y == Str.ofString "") = true then .tuple [] else if (Txt.split y (Str.ofString ".")).all (okL nought) = true then .tuple ((Txt.split y (Str.ofString ".")).map .str) else .none
theorem keep_nil' (f : Nat → Bool) (l : List Nat) : l.all f = true ↔ Dat.list (keepD (fun k => !f k) l) = Dat.list [] := by
  unfold keepD
  rw [Dat.list.injEq, List.map_eq_nil_iff, List.filter_eq_nil_iff, List.all_eq_true]
  constructor
  · intro h a ha; rw [h a ha]; simp
  · intro h a ha
    have := h a ha
    cases q : f a
    · rw [q] at this; simp at this
    · rfl
theorem k_plain (w : World) : nsIn (KF w) mainGlobals "_law_plain" = some (some (.ref 502)) := by kernel_rfl
theorem ex_for_then {c : Cx} {ρ ρ' : Rho} {st : Stmt} {rest : List Stmt} {o : Out} {b : Bool} {d : D} (h : EX1 c ρ st (if b = true then .next ρ' else .ret d)) (k : b = true → EX c ρ' rest o) (k' : b = false → o = .ret d) : EX c ρ (st :: rest) o := by
  cases b with
  | true => exact ex_cons h (k rfl)
  | false => rw [k' rfl]; exact ex_ret h
theorem ex_for_ids {c : Cx} {ρ : Rho} {st : Stmt} {rest : List Stmt} {o : Out} {b : Bool} {d : D} (ids : List Str) (h : EX1 c ρ st (if b = true then .next (foldI ρ ids) else .ret d)) (k : b = true → EX c (foldI ρ ids) rest o) (k' : b = false → o = .ret d) : EX c ρ (st :: rest) o := ex_for_then h k k'
theorem foldI_ne {y : Str} (hy : ¬ y = Str.ofString "item") : ∀ (l : List Str) (ρ : Rho), foldI ρ l y = ρ y
  | [], _ => rfl
  | x :: l, ρ => by
    show foldI (upd ρ "item" (ds x)) l y = _
    rw [foldI_ne hy l]
    unfold upd
    rw [if_neg hy]
set_option maxHeartbeats 4000000 in
theorem fn_ids (w : World) {y : Str} {nought : Bool} (h : SplitOk y) (hA : ∀ x ∈ Txt.split y (Str.ofString "."), AsciiS x) : FN w 1 false 507 [ds y, db nought] [] (some (.dat (idsL nought y))) := by
  refine fn_of (f := 507) (ho := by with_unfolding_all rfl) (by kernel_rfl) (o := .ret (.dat (idsL nought y))) (binds_ok [("part", ds y), ("nought", db nought)] (fun news vs kvs s X a b => ?_) rfl) rfl (fun q => by cases q) (fun mean mg mb base A₀ outer L g₀ os O => ?_) rfl rfl rfl (by simp)
  · obtain ⟨v, v', rfl, a1, a2⟩ := dall2 a
    obtain rfl := kall0 b
    exact ⟨[("part", v), ("nought", v')], BindsTo.of_eq rfl, rfl, a1, rfl, a2, trivial⟩
  · by_cases h0 : (y == Str.ofString "") = true
    · have e : idsL nought y = .tuple [] := if_pos h0
      rw [e]
      exact ex_ret (ex_if (et_compare (by walk_at "leaf") (by walk_at "leaf") op_eq_str) (fun _ => ex_ret (ex_return (ev_tuple (l := []) evs_nil (by decide)))) (fun q => absurd (h0.symm.trans q) (by decide)))
    refine ex_cons (ex_if (et_compare (by walk_at "leaf") (by walk_at "leaf") op_eq_str) (fun q => absurd q h0) (fun _ => ex_nil)) ?_
    refine ex_cons (ex_assign O (ev_method (by walk_at "leaf") (gm_split (y := Str.ofString ".") (by decide +kernel) (by have := h.len; omega)) (evs_cons (by walk_at "leaf") evs_nil) kws_nil) (by kernel_rfl)) ?_
    have e : idsL nought y = if (Txt.split y (Str.ofString ".")).all (okL nought) = true then .tuple ((Txt.split y (Str.ofString ".")).map .str) else .none := if_neg h0
    rw [e]
    refine ex_for_ids (b := (Txt.split y (Str.ofString ".")).all (okL nought)) (Txt.split y (Str.ofString ".")) (d := dn) ?_ (fun hall => ?_) (fun hall => by rw [if_neg (by rw [hall]; decide)])
    · refine ex_for_list O (by walk_at "leaf") ?_ (by kernel_rfl)
      have f2 : upd (rho [("part", ds y), ("nought", db nought)]) "rows" (dl ((Txt.split y (Str.ofString ".")).map .str)) "nought" = some (db nought) := rfl
      have h1' : ∀ x ∈ Txt.split y (Str.ofString "."), x.length ≤ 1000 ∧ AsciiS x := fun x hx => ⟨(h.each x hx).1, hA x hx⟩
      revert f2 h1'
      generalize upd (rho [("part", ds y), ("nought", db nought)]) "rows" (dl ((Txt.split y (Str.ofString ".")).map .str)) = ρ
      generalize Txt.split y (Str.ofString ".") = ids
      intro f2 h1'
      revert ρ
      induction ids with
      | nil => exact fun ρ f2 => turns_nil (if_pos rfl)
      | cons x l ih =>
        intro ρ f2
        obtain ⟨hx, hs⟩ := h1' x (List.mem_cons_self ..)
        obtain ⟨tk, hok⟩ := k_ok w
        by_cases b1 : ((x == Str.ofString "") || !(x.cps.toList.all okc)) = true
        · have hall : ¬ ((x :: l).all (okL nought) = true) := by
            rw [List.all_cons]; unfold okL
            revert b1
            cases x == Str.ofString "" <;> cases x.cps.toList.all okc <;> simp
          rw [if_neg hall]
          refine turns_stop (ex_ret (ex_if (et_boolop (ets_or (et_compare (by walk_at "leaf") (by walk_at "leaf") op_eq_str) fun _ => ets_or (et_compare (ev_comp_str (ct := some _) O rfl (by walk_at "leaf") (by omega) (items_signs (f := fun k => !okc k) (fun k => k < 128) (fun k hk C m OC => ⟨et_compare (ev_local OC (by with_unfolding_all rfl) (by kernel_rfl) (by kernel_rfl)) (by exact ev_Kstr OC hok (by kernel_rfl) (by kernel_rfl)) (occ_okc k hk ▸ op_notin_str), ev_local OC (by with_unfolding_all rfl) (by kernel_rfl) (by kernel_rfl)⟩) _ hs) (by kernel_rfl) (by simp) rfl (by decide +kernel) (by kernel_rfl)) (ev_list (l := []) evs_nil (by decide)) (op_neB O (keep_ok hs) rfl (keep_nil' okc _))) fun _ => ets_or_nil)) (fun _ => ex_ret (ex_return (by walk_at "leaf"))) (fun q => ?_))) (fun _ q => by cases q)
          exfalso
          revert b1 q
          show _ → ((x == Str.ofString "") || (!(x.cps.toList.all okc) || false)) = false → _
          cases x == Str.ofString "" <;> cases x.cps.toList.all okc <;> simp
        · have b1f : ((x == Str.ofString "") || (!(x.cps.toList.all okc) || false)) = false := by
            revert b1
            cases x == Str.ofString "" <;> cases x.cps.toList.all okc <;> simp
          by_cases b2 : (nought && (decide ((1 : Int) < x.length) && ((Txt.item x 0 == Str.ofString "0") && plS x))) = true
          · have hall : ¬ ((x :: l).all (okL nought) = true) := by
              rw [List.all_cons]; unfold okL; rw [b2]; simp
            rw [if_neg hall]
            refine turns_stop (ex_cons (ex_if (et_boolop (ets_or (et_compare (by walk_at "leaf") (by walk_at "leaf") op_eq_str) fun _ => ets_or (et_compare (ev_comp_str (ct := some _) O rfl (by walk_at "leaf") (by omega) (items_signs (f := fun k => !okc k) (fun k => k < 128) (fun k hk C m OC => ⟨et_compare (ev_local OC (by with_unfolding_all rfl) (by kernel_rfl) (by kernel_rfl)) (by exact ev_Kstr OC hok (by kernel_rfl) (by kernel_rfl)) (occ_okc k hk ▸ op_notin_str), ev_local OC (by with_unfolding_all rfl) (by kernel_rfl) (by kernel_rfl)⟩) _ hs) (by kernel_rfl) (by simp) rfl (by decide +kernel) (by kernel_rfl)) (ev_list (l := []) evs_nil (by decide)) (op_neB O (keep_ok hs) rfl (keep_nil' okc _))) fun _ => ets_or_nil)) (fun q => absurd (q.symm.trans b1f) (by decide)) (fun _ => ex_nil)) (ex_ret (ex_if (et_boolop (ets_and (et_value (by walk_at "leaf") (ob_dat (x := .bool nought) trivial)) fun _ => ets_and (et_compare (ev_call (by walk_at "leaf") (evs_cons (by walk_at "leaf") evs_nil) kws_nil fun _ => (cb_len_str (x := x) (by omega)).callable (fun _ q => by cases q)) (by walk_at "leaf") op_gt) fun hgt => ets_and (et_compare (ev_sub (by walk_at "leaf") (by walk_at "leaf") (sub_str (x := x) fits0 (by omega) (by have := of_decide_eq_true hgt; omega) (fun _ _ => rfl) (fun _ _ => rfl))) (by walk_at "leaf") op_eq_str) fun _ => ets_and (et_value (ev_call (ev_K O (k_plain w) (by kernel_rfl) (by kernel_rfl)) (evs_cons (by walk_at "leaf") evs_nil) kws_nil fun _ => callable_fn O (fn_plain w hs hx) (Nat.zero_lt_succ 0) (fun q => by cases q) (by kernel_rfl)) (ob_dat (x := .bool _) trivial)) fun _ => ets_and_nil)) (fun _ => ex_ret (ex_return (by walk_at "leaf"))) (fun q => ?_)))) (fun _ q => by cases q)
            exfalso
            revert b2 q
            show _ → (nought && (decide ((1 : Int) < x.length) && ((Txt.item x 0 == Str.ofString "0") && (plS x && true)))) = false → _
            rw [Bool.and_true]
            intro a b; rw [a] at b; cases b
          · have hall : (x :: l).all (okL nought) = l.all (okL nought) := by
              rw [List.all_cons]
              have : okL nought x = true := by
                unfold okL; rw [Bool.eq_false_iff.mpr b2]
                revert b1
                cases x == Str.ofString "" <;> cases x.cps.toList.all okc <;> simp
              rw [this, Bool.true_and]
            rw [hall]
            refine turns_next (ex_cons (ex_if (et_boolop (ets_or (et_compare (by walk_at "leaf") (by walk_at "leaf") op_eq_str) fun _ => ets_or (et_compare (ev_comp_str (ct := some _) O rfl (by walk_at "leaf") (by omega) (items_signs (f := fun k => !okc k) (fun k => k < 128) (fun k hk C m OC => ⟨et_compare (ev_local OC (by with_unfolding_all rfl) (by kernel_rfl) (by kernel_rfl)) (by exact ev_Kstr OC hok (by kernel_rfl) (by kernel_rfl)) (occ_okc k hk ▸ op_notin_str), ev_local OC (by with_unfolding_all rfl) (by kernel_rfl) (by kernel_rfl)⟩) _ hs) (by kernel_rfl) (by simp) rfl (by decide +kernel) (by kernel_rfl)) (ev_list (l := []) evs_nil (by decide)) (op_neB O (keep_ok hs) rfl (keep_nil' okc _))) fun _ => ets_or_nil)) (fun q => absurd (q.symm.trans b1f) (by decide)) (fun _ => ex_nil)) (ex_one (ex_if (et_boolop (ets_and (et_value (by walk_at "leaf") (ob_dat (x := .bool nought) trivial)) fun _ => ets_and (et_compare (ev_call (by walk_at "leaf") (evs_cons (by walk_at "leaf") evs_nil) kws_nil fun _ => (cb_len_str (x := x) (by omega)).callable (fun _ q => by cases q)) (by walk_at "leaf") op_gt) fun hgt => ets_and (et_compare (ev_sub (by walk_at "leaf") (by walk_at "leaf") (sub_str (x := x) fits0 (by omega) (by have := of_decide_eq_true hgt; omega) (fun _ _ => rfl) (fun _ _ => rfl))) (by walk_at "leaf") op_eq_str) fun _ => ets_and (et_value (ev_call (ev_K O (k_plain w) (by kernel_rfl) (by kernel_rfl)) (evs_cons (by walk_at "leaf") evs_nil) kws_nil fun _ => callable_fn O (fn_plain w hs hx) (Nat.zero_lt_succ 0) (fun q => by cases q) (by kernel_rfl)) (ob_dat (x := .bool _) trivial)) fun _ => ets_and_nil)) (fun q => ?_) (fun _ => ex_nil)))) (ih (fun z hz => h1' z (List.mem_cons_of_mem _ hz)) _ (by unfold upd; rw [if_neg (by decide +kernel)]; exact f2))
            exfalso
            refine b2 ?_
            revert q
            show (nought && (decide ((1 : Int) < x.length) && ((Txt.item x 0 == Str.ofString "0") && (plS x && true)))) = true → _
            rw [Bool.and_true]
            exact id
    · rw [if_pos hall]
      refine ex_ret (ex_return (ev_call (by walk_at "leaf") (evs_cons (ev_local O ((foldI_ne (by decide +kernel) _ _).trans (by with_unfolding_all rfl)) (by kernel_rfl) (by kernel_rfl)) evs_nil) kws_nil fun _ => (cb_tuple_list (by rw [List.length_map]; exact h.many)).callable (fun _ q => by cases q)))
end Mine
end
end
section
open PySem PySem.W PyProof.Rows PySem.Spec PySem.Calls
set_option maxRecDepth 100000
set_option linter.unusedVariables false
noncomputable section
namespace Mine
theorem upd_ne {ρ : Rho} {x y : Str} {d : D} (h : ¬ y = x) : upd ρ x d y = ρ y := if_neg h
local macro_rules | `(tactic| walk_at "lk") => `(tactic| first | with_unfolding_all rfl | assumption | (refine (upd_ne (by decide +kernel)).trans ?_; walk_at "lk"))
local macro_rules | `(tactic| walk_at "leaf") => `(tactic| first | exact ev_str | exact ev_int | exact ev_none | exact ev_bool | exact ev_local (by assumption) (by walk_at "lk") (by kernel_rfl) (by kernel_rfl) | exact ev_B (by assumption) (k_int _) Boot.int n_int (by kernel_rfl) (by kernel_rfl) | exact ev_B (by assumption) (k_tuple _) Boot.tuple n_tuple (by kernel_rfl) (by kernel_rfl) | exact ev_B (by assumption) (k_len _) Boot.len n_len (by kernel_rfl) (by kernel_rfl))
def isDN : Dat → Bool
  | .none => true
  | _ => false
def aft (x : Str) (c : Str) : Str := Txt.slice x (some (Txt.find x c + 1)) none
def bef (x : Str) (c : Str) : Str := Txt.slice x none (some (Txt.find x c))
/-- build, bare, text -/
def s1 (x : Str) : Option (Dat × Bool × Str) :=
  if decide (0 ≤ Txt.find x (Str.ofString "+")) = true then (if isDN (idsL false (aft x (Str.ofString "+"))) = true then none else some (idsL false (aft x (Str.ofString "+")), aft x (Str.ofString "+") == Str.ofString "", bef x (Str.ofString "+"))) else some (.none, false, x)
def s2 (t : Str) (bare : Bool) : Option (Dat × Bool × Str) :=
  if decide (0 ≤ Txt.find t (Str.ofString "-")) = true then (if isDN (idsL true (aft t (Str.ofString "-"))) = true then none else some (idsL true (aft t (Str.ofString "-")), bare || aft t (Str.ofString "-") == Str.ofString "", bef t (Str.ofString "-"))) else some (.none, bare, t)
def bad (r : Str) : Bool := !plS r || lz2 r
def s3 (t : Str) : Option (List Str) :=
  if (decide ((3 : Int) < (Txt.split t (Str.ofString ".")).length) || !(Txt.split t (Str.ofString ".")).all (fun r => !bad r)) = true then none else some (Txt.split t (Str.ofString "."))
def nth (rows : List Str) (k : Nat) : Dat := ((rows.map fun r => Dat.int (nI r)) ++ [Dat.none, Dat.none]).getD k .none
def due (rows : List Str) (pre build : Dat) : List Dat := [nth rows 0, nth rows 1, nth rows 2, if (isDN pre && !isDN build) = true then .tuple [] else pre, build]
def rd (x : Str) : Option (List Dat × Bool) :=
  match s1 x with
  | none => none
  | some (build, bare, t) => match s2 t bare with
    | none => none
    | some (pre, bare, t) => match s3 t with
      | none => none
      | some rows => some (due rows pre build, bare)
def rdD (x : Str) : Dat := match rd x with
  | none => .none
  | some (l, b) => .tuple [.tuple l, .bool b]
/-- what a text that is read may be -/
structure ReadOk (x : Str) : Prop where
  len : x.length ≤ 300
  build : ∀ q, q = aft x (Str.ofString "+") → SplitOk q ∧ ∀ y ∈ Txt.split q (Str.ofString "."), AsciiS y
  pre : ∀ t, t = x ∨ t = bef x (Str.ofString "+") → t.length ≤ 300 ∧ (∀ q, q = aft t (Str.ofString "-") → SplitOk q ∧ ∀ y ∈ Txt.split q (Str.ofString "."), AsciiS y)
  num : ∀ t u, t = x ∨ t = bef x (Str.ofString "+") → u = t ∨ u = bef t (Str.ofString "-") → SplitOk u ∧ ∀ y ∈ Txt.split u (Str.ofString "."), AsciiS y ∧ (plS y = true → isNum y)
theorem k_ids (w : World) : nsIn (KF w) mainGlobals "_law_ids" = some (some (.ref 507)) := by kernel_rfl
theorem ev_orB {c : Cx} {ρ : Rho} {x y : Expr} {pos : Pos} {a b : Bool} (h : EV c ρ x (some (db a))) (k : EV c ρ y (some (db b))) : EV c ρ (.BoolOp .Or [x, y] pos) (some (db (a || b))) := by
  refine ev_or h (ob_dat (x := .bool a) trivial) (fun q => ?_) (fun q => ?_)
  · have q' : a = false := q
    rw [q', Bool.false_or]; exact ev_bool_one k
  · have q' : a = true := q
    rw [q', Bool.true_or]
theorem ev_aft {c : Cx} {ρ : Rho} {tx pl : Str} {tp pp kp bp p pos : Pos} {kk : Nat} {x ch : Str} (h1 : EV c ρ (.Name tx tp) (some (ds x))) (h2 : EV c ρ (.Name pl pp) (some (di (Txt.find x ch)))) (hx : x.length ≤ 1000) :
    EV c ρ (.Subscript (.Name tx tp) (.Slice (some (.BinOp (.Name pl pp) .Add (.Constant (.int 1) kk kp) bp)) none none p) pos) (some (ds (aft x ch))) :=
  ev_slice (a := some (Txt.find x ch + 1)) (b := none) h1 (by exact ev_binop h2 ev_int op_add_int) trivial (by omega) (fun _ _ => rfl) (fun _ _ => rfl)
theorem ev_bef {c : Cx} {ρ : Rho} {tx pl : Str} {tp pp p pos : Pos} {x ch : Str} (h1 : EV c ρ (.Name tx tp) (some (ds x))) (h2 : EV c ρ (.Name pl pp) (some (di (Txt.find x ch)))) (hx : x.length ≤ 1000) :
    EV c ρ (.Subscript (.Name tx tp) (.Slice none (some (.Name pl pp)) none p) pos) (some (ds (bef x ch))) :=
  ev_slice (a := none) (b := some (Txt.find x ch)) h1 trivial (by exact h2) (by omega) (fun _ _ => rfl) (fun _ _ => rfl)
theorem ev_ids {c : Cx} {ρ : Rho} (O : c.Ok) (hr : 1 < c.rk) {e1 e2 : Expr} {np pos : Pos} {q : Str} {b : Bool} (hq : SplitOk q ∧ ∀ y ∈ Txt.split q (Str.ofString "."), AsciiS y) (h1 : EV c ρ e1 (some (ds q))) (h2 : EV c ρ e2 (some (db b))) (hl : c.en.kindOf "_law_ids" = some .globalImplicit)
    (hs : starEach [e1, e2] c.en = (false, eval e1 c.en) :: starEach [e2] c.en) (hs2 : starEach [e2] c.en = (false, eval e2 c.en) :: starEach [] c.en) : EV c ρ (.Call (.Name "_law_ids" np) [e1, e2] [] pos) (some (.dat (idsL b q))) :=
  ev_call (ev_K O (k_ids _) hl (by decide +kernel)) (evs_cons h1 (evs_cons h2 evs_nil hs2) hs) kws_nil fun _ => callable_fn O (fn_ids c.w hq.1 hq.2) hr (fun q => by cases q) (by kernel_rfl)
theorem split_ne (x y : Str) : 1 ≤ (Txt.split x y).length := by
  unfold Txt.split
  split
  · exact Nat.le_refl _
  · split
    · exact Nat.le_refl _
    · rw [length_partsBetween]; omega
theorem items_strs {c : Cx} {scope : Scope} {x : Str} {t elt : Expr} {f : Str → Bool} : ∀ (l : List Str), (∀ r ∈ l, ∀ C m, (inC c (compEnvC scope [] C c.env) m).Ok → ET (inC c (compEnvC scope [] C c.env) m) (one x (.str r)) t (some (f r)) ∧ EV (inC c (compEnvC scope [] C c.env) m) (one x (.str r)) elt (some (ds r))) →
    Items c scope x (some t) elt (l.map .str) ((l.filter f).map .str)
  | [], _ => rfl
  | k :: l, hl => by
    have ih := items_strs l fun k hk => hl k (List.mem_cons_of_mem _ hk)
    by_cases hf : f k = true
    · rw [List.filter_cons_of_pos hf]
      exact .inl ⟨_, _, fun C m O => by have := hl k (List.mem_cons_self ..) C m O; rw [hf] at this; exact ⟨this.1, this.2, rfl⟩, ih, rfl⟩
    · rw [List.filter_cons_of_neg hf]
      exact .inr ⟨fun C m O => by have := hl k (List.mem_cons_self ..) C m O; rw [Bool.eq_false_iff.mpr hf] at this; exact this.1, ih⟩
theorem items_map {c : Cx} {scope : Scope} {x : Str} {elt : Expr} {g : Str → Dat} (hg : ∀ r, flatD (g r) = true) : ∀ (l : List Str), (∀ r ∈ l, ∀ C m, (inC c (compEnvC scope [] C c.env) m).Ok → EV (inC c (compEnvC scope [] C c.env) m) (one x (.str r)) elt (some (.dat (g r)))) →
    Items c scope x none elt (l.map .str) (l.map g)
  | [], _ => rfl
  | k :: l, hl => .inl ⟨_, _, fun C m O => ⟨hl k (List.mem_cons_self ..) C m O, hg k⟩, items_map hg l (fun k hk => hl k (List.mem_cons_of_mem _ hk)), rfl⟩
theorem filt_nil {f : Str → Bool} (l : List Str) : l.all (fun r => !f r) = true ↔ Dat.list ((l.filter f).map .str) = Dat.list [] := by
  rw [Dat.list.injEq, List.map_eq_nil_iff, List.filter_eq_nil_iff, List.all_eq_true]
  constructor
  · intro h a ha; have := h a ha; cases q : f a
    · simp
    · rw [q] at this; simp at this
  · intro h a ha
    have := h a ha
    cases q : f a
    · rfl
    · exact absurd q this
theorem kq_strs {l : List Str} (h : ∀ r ∈ l, PyData.strOk r = true) : kqdOk 9 (.list (l.map .str)) = true := by
  show (l.map Dat.str).all (kqdOk 8) = true
  rw [List.all_eq_true]
  intro d hd
  obtain ⟨r, hr, rfl⟩ := List.mem_map.mp hd
  exact h r hr
theorem ascii_ok {x : Str} (h : AsciiS x) : PyData.strOk x = true := by
  unfold PyData.strOk
  rw [Array.all_eq_true_iff_forall_mem]
  intro k hk
  have := h k (Array.mem_toList_iff.mpr hk)
  exact decide_eq_true (by omega)
theorem s3_some {u : Str} (h : ¬ s3 u = none) : (decide ((3 : Int) < (Txt.split u (Str.ofString ".")).length) || !(Txt.split u (Str.ofString ".")).all (fun r => !bad r)) = false ∧ s3 u = some (Txt.split u (Str.ofString ".")) := by
  unfold s3 at h ⊢
  cases q : (decide ((3 : Int) < (Txt.split u (Str.ofString ".")).length) || !(Txt.split u (Str.ofString ".")).all (fun r => !bad r))
  · exact ⟨rfl, if_neg (by decide)⟩
  · rw [q] at h; exact absurd (if_pos rfl) h
theorem nth_some {rows : List Str} (h : 1 ≤ rows.length) {k : Nat} (hk : k < 3) : ((rows.map fun r => Dat.int (nI r)) ++ [Dat.none, Dat.none])[k]? = some (nth rows k) := by
  unfold nth
  have : k < ((rows.map fun r => Dat.int (nI r)) ++ [Dat.none, Dat.none]).length := by simp; omega
  rw [List.getD, List.getElem?_eq_getElem this]; rfl
theorem ex_branch {c : Cx} {ρ : Rho} {st : Stmt} {rest : List Stmt} {o : Out} (P : Rho → Prop) (h : ∃ ρ', EX1 c ρ st (.next ρ') ∧ P ρ') (k : ∀ ρ', P ρ' → EX c ρ' rest o) : EX c ρ (st :: rest) o := by
  obtain ⟨ρ', a, b⟩ := h
  exact ex_cons a (k ρ' b)
theorem isN_isDN (d : Dat) : isN (.dat d) = isDN d := by cases d <;> rfl
theorem s1_cases (x : Str) : (decide (0 ≤ Txt.find x (Str.ofString "+")) = false ∧ s1 x = some (.none, false, x)) ∨ (decide (0 ≤ Txt.find x (Str.ofString "+")) = true ∧ isDN (idsL false (aft x (Str.ofString "+"))) = true ∧ s1 x = none) ∨
    (decide (0 ≤ Txt.find x (Str.ofString "+")) = true ∧ isDN (idsL false (aft x (Str.ofString "+"))) = false ∧ s1 x = some (idsL false (aft x (Str.ofString "+")), aft x (Str.ofString "+") == Str.ofString "", bef x (Str.ofString "+"))) := by
  unfold s1
  cases h1 : decide (0 ≤ Txt.find x (Str.ofString "+"))
  · exact .inl ⟨rfl, if_neg (by decide)⟩
  · cases h2 : isDN (idsL false (aft x (Str.ofString "+")))
    · exact .inr (.inr ⟨rfl, rfl, (if_pos rfl).trans (if_neg (by decide))⟩)
    · exact .inr (.inl ⟨rfl, rfl, (if_pos rfl).trans (if_pos rfl)⟩)
theorem s2_cases (t : Str) (bare : Bool) : (decide (0 ≤ Txt.find t (Str.ofString "-")) = false ∧ s2 t bare = some (.none, bare, t)) ∨ (decide (0 ≤ Txt.find t (Str.ofString "-")) = true ∧ isDN (idsL true (aft t (Str.ofString "-"))) = true ∧ s2 t bare = none) ∨
    (decide (0 ≤ Txt.find t (Str.ofString "-")) = true ∧ isDN (idsL true (aft t (Str.ofString "-"))) = false ∧ s2 t bare = some (idsL true (aft t (Str.ofString "-")), bare || aft t (Str.ofString "-") == Str.ofString "", bef t (Str.ofString "-"))) := by
  unfold s2
  cases h1 : decide (0 ≤ Txt.find t (Str.ofString "-"))
  · exact .inl ⟨rfl, if_neg (by decide)⟩
  · cases h2 : isDN (idsL true (aft t (Str.ofString "-")))
    · exact .inr (.inr ⟨rfl, rfl, (if_pos rfl).trans (if_neg (by decide))⟩)
    · exact .inr (.inl ⟨rfl, rfl, (if_pos rfl).trans (if_pos rfl)⟩)
theorem rd_none1 {x : Str} (h : s1 x = none) : rdD x = .none := by unfold rdD rd; rw [h]
theorem rd_none2 {x t : Str} {build : Dat} {bare : Bool} (h : s1 x = some (build, bare, t)) (h2 : s2 t bare = none) : rdD x = .none := by unfold rdD rd; rw [h]; dsimp only; rw [h2]
theorem rd_none3 {x t u : Str} {build pre : Dat} {bare bare' : Bool} (h : s1 x = some (build, bare, t)) (h2 : s2 t bare = some (pre, bare', u)) (h3 : s3 u = none) : rdD x = .none := by unfold rdD rd; rw [h]; dsimp only; rw [h2]; dsimp only; rw [h3]
theorem rd_some {x t u : Str} {build pre : Dat} {bare bare' : Bool} {rows : List Str} (h : s1 x = some (build, bare, t)) (h2 : s2 t bare = some (pre, bare', u)) (h3 : s3 u = some rows) : rdD x = .tuple [.tuple (due rows pre build), .bool bare'] := by unfold rdD rd; rw [h]; dsimp only; rw [h2]; dsimp only; rw [h3]
set_option maxHeartbeats 8000000 in
theorem fn_read (w : World) {x : Str} (h : ReadOk x) : FN w 2 false 512 [ds x] [] (some (.dat (rdD x))) := by
  refine fn_of (f := 512) (ho := by with_unfolding_all rfl) (by kernel_rfl) (o := .ret (.dat (rdD x))) (binds_ok [("text", ds x)] (fun news vs kvs s X a b => ?_) rfl) rfl (fun q => by cases q) (fun mean mg mb base A₀ outer L g₀ os O => ?_) rfl rfl rfl (by simp)
  · obtain ⟨v, rfl, a1⟩ := dall1 a
    obtain rfl := kall0 b
    exact ⟨[("text", v)], BindsTo.of_eq rfl, rfl, a1, trivial⟩
  · refine ex_cons (ex_unpack O (ev_tuple (l := [.none, .none, .bool false]) (evs_cons (by walk_at "leaf") (evs_cons (by walk_at "leaf") (evs_cons (by walk_at "leaf") evs_nil))) (by decide)) (xs := ["pre", "build", "bare"]) ⟨⟨_, rfl⟩, by kernel_rfl, ⟨_, rfl⟩, by kernel_rfl, ⟨_, rfl⟩, by kernel_rfl, trivial⟩ rfl) ?_
    refine ex_cons (ex_assign O (ev_method (by walk_at "leaf") (gm_find (y := Str.ofString "+")) (evs_cons (by walk_at "leaf") evs_nil) kws_nil) (by kernel_rfl)) ?_
    have hb := h.build _ rfl
    have hlen := h.len
    by_cases hz : s1 x = none
    · rcases s1_cases x with ⟨hp, e1⟩ | ⟨hp, hn, e1⟩ | ⟨hp, hn, e1⟩
      · rw [e1] at hz; cases hz
      · rw [rd_none1 e1]
        exact ex_ret (ex_if (et_compare (by walk_at "leaf") (by walk_at "leaf") op_ge) (fun _ => ex_cons (ex_assign O (ev_ids O (by show 1 < 2; decide) hb (ev_aft (by walk_at "leaf") (by walk_at "leaf") (by omega)) (by walk_at "leaf") (by kernel_rfl) rfl rfl) (by kernel_rfl)) (ex_cons (ex_assign O (by exact ev_compare (ev_aft (ch := Str.ofString "+") (by walk_at "leaf") (by walk_at "leaf") (by omega)) (by walk_at "leaf") op_eq_str) (by kernel_rfl)) (ex_cons (ex_assign O (ev_bef (ch := Str.ofString "+") (by walk_at "leaf") (by walk_at "leaf") (by omega)) (by kernel_rfl)) (ex_ret (ex_if (et_compare (by walk_at "leaf") (by walk_at "leaf") op_is_none) (fun _ => ex_ret (ex_return (by walk_at "leaf"))) (fun q => by rw [isN_isDN, hn] at q; cases q)))))) (fun q => absurd (q.symm.trans hp) (by decide)))
      · rw [e1] at hz; cases hz
    refine ex_branch (fun ρ' => ∃ build bare t, s1 x = some (build, bare, t) ∧ (t = x ∨ t = bef x (Str.ofString "+")) ∧ ρ' "text" = some (ds t) ∧ ρ' "bare" = some (db bare) ∧ ρ' "build" = some (.dat build) ∧ ρ' "pre" = some dn) ?_ ?_
    · rcases s1_cases x with ⟨hp, e1⟩ | ⟨hp, hn, e1⟩ | ⟨hp, hn, e1⟩
      · exact ⟨_, ex_if (et_compare (by walk_at "leaf") (by walk_at "leaf") op_ge) (fun q => absurd (q.symm.trans hp) (by decide)) (fun _ => ex_nil), _, _, _, e1, .inl rfl, by with_unfolding_all rfl, by with_unfolding_all rfl, by with_unfolding_all rfl, by with_unfolding_all rfl⟩
      · exact absurd e1 hz
      · exact ⟨_, ex_if (et_compare (by walk_at "leaf") (by walk_at "leaf") op_ge) (fun _ => ex_cons (ex_assign O (ev_ids O (by show 1 < 2; decide) hb (ev_aft (by walk_at "leaf") (by walk_at "leaf") (by omega)) (by walk_at "leaf") (by kernel_rfl) rfl rfl) (by kernel_rfl)) (ex_cons (ex_assign O (by exact ev_compare (ev_aft (ch := Str.ofString "+") (by walk_at "leaf") (by walk_at "leaf") (by omega)) (by walk_at "leaf") op_eq_str) (by kernel_rfl)) (ex_cons (ex_assign O (ev_bef (ch := Str.ofString "+") (by walk_at "leaf") (by walk_at "leaf") (by omega)) (by kernel_rfl)) (ex_one (ex_if (et_compare (by walk_at "leaf") (by walk_at "leaf") op_is_none) (fun q => by rw [isN_isDN, hn] at q; cases q) (fun _ => ex_nil)))))) (fun q => absurd (q.symm.trans hp) (by decide)), _, _, _, e1, .inr rfl, by with_unfolding_all rfl, by with_unfolding_all rfl, by with_unfolding_all rfl, by with_unfolding_all rfl⟩
    rintro ρ ⟨build, bare, t, e1, ht, f1, f2, f3, f4⟩
    clear hz hb
    obtain ⟨htl, hb2⟩ := h.pre t ht
    have hb2 := hb2 _ rfl
    refine ex_cons (ex_assign O (ev_method (by walk_at "leaf") (gm_find (y := Str.ofString "-")) (evs_cons (by walk_at "leaf") evs_nil) kws_nil) (by kernel_rfl)) ?_
    by_cases hz : s2 t bare = none
    · rcases s2_cases t bare with ⟨hp, e2⟩ | ⟨hp, hn, e2⟩ | ⟨hp, hn, e2⟩
      · rw [e2] at hz; cases hz
      · rw [rd_none2 e1 e2]
        refine ex_ret (ex_if (et_compare (by walk_at "leaf") (by walk_at "leaf") op_ge) (fun _ => ex_cons (ex_assign O (ev_ids O (by show 1 < 2; decide) hb2 (ev_aft (by walk_at "leaf") (by walk_at "leaf") (by omega)) (by walk_at "leaf") (by kernel_rfl) rfl rfl) (by kernel_rfl)) (ex_cons (ex_assign O (ev_orB (by walk_at "leaf") (by exact ev_compare (ev_aft (ch := Str.ofString "-") (by walk_at "leaf") (by walk_at "leaf") (by omega)) (by walk_at "leaf") op_eq_str)) (by kernel_rfl)) (ex_cons (ex_assign O (ev_bef (ch := Str.ofString "-") (by walk_at "leaf") (by walk_at "leaf") (by omega)) (by kernel_rfl)) (ex_ret (ex_if (et_compare (by walk_at "leaf") (by walk_at "leaf") op_is_none) (fun _ => ex_ret (ex_return (by walk_at "leaf"))) (fun q => by rw [isN_isDN, hn] at q; cases q)))))) (fun q => absurd (q.symm.trans hp) (by decide)))
      · rw [e2] at hz; cases hz
    refine ex_branch (fun ρ' => ∃ pre bare' u, s2 t bare = some (pre, bare', u) ∧ (u = t ∨ u = bef t (Str.ofString "-")) ∧ ρ' "text" = some (ds u) ∧ ρ' "bare" = some (db bare') ∧ ρ' "build" = some (.dat build) ∧ ρ' "pre" = some (.dat pre)) ?_ ?_
    · rcases s2_cases t bare with ⟨hp, e2⟩ | ⟨hp, hn, e2⟩ | ⟨hp, hn, e2⟩
      · exact ⟨_, ex_if (et_compare (by walk_at "leaf") (by walk_at "leaf") op_ge) (fun q => absurd (q.symm.trans hp) (by decide)) (fun _ => ex_nil), _, _, _, e2, .inl rfl, by walk_at "lk", by walk_at "lk", by walk_at "lk", by walk_at "lk"⟩
      · exact absurd e2 hz
      · exact ⟨_, ex_if (et_compare (by walk_at "leaf") (by walk_at "leaf") op_ge) (fun _ => ex_cons (ex_assign O (ev_ids O (by show 1 < 2; decide) hb2 (ev_aft (by walk_at "leaf") (by walk_at "leaf") (by omega)) (by walk_at "leaf") (by kernel_rfl) rfl rfl) (by kernel_rfl)) (ex_cons (ex_assign O (ev_orB (by walk_at "leaf") (by exact ev_compare (ev_aft (ch := Str.ofString "-") (by walk_at "leaf") (by walk_at "leaf") (by omega)) (by walk_at "leaf") op_eq_str)) (by kernel_rfl)) (ex_cons (ex_assign O (ev_bef (ch := Str.ofString "-") (by walk_at "leaf") (by walk_at "leaf") (by omega)) (by kernel_rfl)) (ex_one (ex_if (et_compare (by walk_at "leaf") (by walk_at "leaf") op_is_none) (fun q => by rw [isN_isDN, hn] at q; cases q) (fun _ => ex_nil)))))) (fun q => absurd (q.symm.trans hp) (by decide)), _, _, _, e2, .inr rfl, by walk_at "lk", by walk_at "lk", by walk_at "lk", by walk_at "lk"⟩
    clear f1 f2 f3 f4 hb2 hz ρ
    rintro ρ ⟨pre, bare', u, e2, hu, f1, f2, f3, f4⟩
    obtain ⟨hsp, hrow⟩ := h.num t u ht hu
    have hul := hsp.len
    refine ex_cons (ex_assign O (ev_method (by walk_at "leaf") (gm_split (y := Str.ofString ".") (by decide +kernel) (by omega)) (evs_cons (by walk_at "leaf") evs_nil) kws_nil) (by kernel_rfl)) ?_
    have hlenr : (Txt.split u (Str.ofString ".")).length ≤ 1000 := hsp.many
    have hitems : ∀ r ∈ Txt.split u (Str.ofString "."), r.length ≤ 1000 := fun r hr => (hsp.each r hr).1
    have kq : kqdOk 9 (.list (((Txt.split u (Str.ofString ".")).filter bad).map .str)) = true := kq_strs fun r hr => ascii_ok (hrow r (List.mem_filter.mp hr).1).1
    have tst : ∀ r, ((!plS r) || ((decide ((1 : Int) < r.length) && ((Txt.item r 0 == Str.ofString "0") && true)) || false)) = bad r := fun r => by unfold bad lz2; rw [Bool.and_true, Bool.or_false]
    by_cases hz : s3 u = none
    · rw [rd_none3 e1 e2 hz]
      refine ex_ret (ex_if (et_boolop (ets_or (et_compare (ev_call (by walk_at "leaf") (evs_cons (by walk_at "leaf") evs_nil) kws_nil fun _ => (cb_len_list (l := (Txt.split u (Str.ofString ".")).map .str) (by rw [List.length_map]; omega)).callable (fun _ q => by cases q)) (by walk_at "leaf") op_gt) fun _ => ets_or (et_compare (ev_comp_list (ct := some _) O rfl (by walk_at "leaf") (by rw [List.length_map]; omega) (items_strs (f := bad) _ fun r hr C m OC => ⟨?_, ev_local OC (by with_unfolding_all rfl) (by kernel_rfl) (by kernel_rfl)⟩) (by kernel_rfl) (by simp) rfl (by decide +kernel) (by kernel_rfl)) (ev_list (l := []) evs_nil (by decide)) (op_neB O kq rfl (filt_nil _))) fun _ => ets_or_nil)) (fun _ => ex_ret (ex_return (by walk_at "leaf"))) (fun q => ?_))
      · rw [← tst r]
        have hx := hitems r hr
        exact et_boolop (ets_or (et_not (et_value (ev_call (ev_K OC (k_plain w) (by kernel_rfl) (by kernel_rfl)) (evs_cons (ev_local OC (by with_unfolding_all rfl) (by kernel_rfl) (by kernel_rfl)) evs_nil) kws_nil fun _ => callable_fn OC (fn_plain w (hrow r hr).1 hx) (by show 0 < 2; decide) (fun q => by cases q) (by kernel_rfl)) (ob_dat (x := .bool _) trivial))) fun _ => ets_or (et_boolop (ets_and (et_compare (ev_call (ev_B OC (k_len w) Boot.len n_len (by kernel_rfl) (by kernel_rfl)) (evs_cons (ev_local OC (by with_unfolding_all rfl) (by kernel_rfl) (by kernel_rfl)) evs_nil) kws_nil fun _ => (cb_len_str (x := r) (by omega)).callable (fun _ q => by cases q)) ev_int op_gt) fun hgt => ets_and (et_compare (ev_sub (ev_local OC (by with_unfolding_all rfl) (by kernel_rfl) (by kernel_rfl)) ev_int (sub_str (x := r) fits0 (by omega) (by have := of_decide_eq_true hgt; omega) (fun _ _ => rfl) (fun _ _ => rfl))) ev_str op_eq_str) fun _ => ets_and_nil)) fun _ => ets_or_nil)
      · exfalso
        revert hz q
        unfold s3
        show _ → (decide ((3 : Int) < ((Txt.split u (Str.ofString ".")).map Dat.str).length) || ((!(Txt.split u (Str.ofString ".")).all fun r => !bad r) || false)) = false → False
        rw [List.length_map, Bool.or_false]
        intro q1 q2
        rw [if_neg (by rw [q2]; decide)] at q1
        cases q1
    obtain ⟨hok, e3⟩ := s3_some hz
    rw [rd_some e1 e2 e3]
    have hl3 : (Txt.split u (Str.ofString ".")).length ≤ 3 := by
      have := of_decide_eq_false (Bool.or_eq_false_iff.mp hok).1
      omega
    have hl1 := split_ne u (Str.ofString ".")
    have hpl : ∀ r ∈ Txt.split u (Str.ofString "."), isNum r := fun r hr => by
      have h1 := (Bool.or_eq_false_iff.mp hok).2
      have h2 : (Txt.split u (Str.ofString ".")).all (fun r => !bad r) = true := by
        revert h1; cases (Txt.split u (Str.ofString ".")).all (fun r => !bad r) <;> simp
      have h3 := List.all_eq_true.mp h2 r hr
      refine (hrow r hr).2 ?_
      revert h3
      unfold bad
      cases plS r <;> simp
    refine ex_cons (ex_if (et_boolop (ets_or (et_compare (ev_call (by walk_at "leaf") (evs_cons (by walk_at "leaf") evs_nil) kws_nil fun _ => (cb_len_list (l := (Txt.split u (Str.ofString ".")).map .str) (by rw [List.length_map]; omega)).callable (fun _ q => by cases q)) (by walk_at "leaf") op_gt) fun _ => ets_or (et_compare (ev_comp_list (ct := some _) O rfl (by walk_at "leaf") (by rw [List.length_map]; omega) (items_strs (f := bad) _ fun r hr C m OC => ⟨?_, ev_local OC (by with_unfolding_all rfl) (by kernel_rfl) (by kernel_rfl)⟩) (by kernel_rfl) (by simp) rfl (by decide +kernel) (by kernel_rfl)) (ev_list (l := []) evs_nil (by decide)) (op_neB O kq rfl (filt_nil _))) fun _ => ets_or_nil)) (fun q => ?_) (fun _ => ex_nil)) ?_
    · rw [← tst r]
      have hx := hitems r hr
      exact et_boolop (ets_or (et_not (et_value (ev_call (ev_K OC (k_plain w) (by kernel_rfl) (by kernel_rfl)) (evs_cons (ev_local OC (by with_unfolding_all rfl) (by kernel_rfl) (by kernel_rfl)) evs_nil) kws_nil fun _ => callable_fn OC (fn_plain w (hrow r hr).1 hx) (by show 0 < 2; decide) (fun q => by cases q) (by kernel_rfl)) (ob_dat (x := .bool _) trivial))) fun _ => ets_or (et_boolop (ets_and (et_compare (ev_call (ev_B OC (k_len w) Boot.len n_len (by kernel_rfl) (by kernel_rfl)) (evs_cons (ev_local OC (by with_unfolding_all rfl) (by kernel_rfl) (by kernel_rfl)) evs_nil) kws_nil fun _ => (cb_len_str (x := r) (by omega)).callable (fun _ q => by cases q)) ev_int op_gt) fun hgt => ets_and (et_compare (ev_sub (ev_local OC (by with_unfolding_all rfl) (by kernel_rfl) (by kernel_rfl)) ev_int (sub_str (x := r) fits0 (by omega) (by have := of_decide_eq_true hgt; omega) (fun _ _ => rfl) (fun _ _ => rfl))) ev_str op_eq_str) fun _ => ets_and_nil)) fun _ => ets_or_nil)
    · exfalso
      revert q
      show (decide ((3 : Int) < ((Txt.split u (Str.ofString ".")).map Dat.str).length) || ((!(Txt.split u (Str.ofString ".")).all fun r => !bad r) || false)) = true → False
      rw [List.length_map, Bool.or_false, hok]
      intro q; cases q
    refine ex_cons (ex_assign O (ev_binop (ev_comp_list (ct := none) O rfl (by walk_at "leaf") (by rw [List.length_map]; omega) (items_map (g := fun r => .int (nI r)) (fun _ => rfl) _ fun r hr C m OC => by exact ev_call (ev_B OC (k_int w) Boot.int n_int (by kernel_rfl) (by kernel_rfl)) (evs_cons (ev_local OC (by with_unfolding_all rfl) (by kernel_rfl) (by kernel_rfl)) evs_nil) kws_nil fun _ => (cb_int (nI_eq (hpl r hr)) (by have := (hpl r hr).2.1; omega)).callable (fun _ q => by cases q)) (by kernel_rfl) (by simp) rfl (by decide +kernel) (by kernel_rfl)) (ev_list (l := [.none, .none]) (evs_cons (by walk_at "leaf") (evs_cons (by walk_at "leaf") evs_nil)) (by decide)) (op_add_list (by rw [List.length_map]; show _ + 2 ≤ 1000; omega))) (by kernel_rfl)) ?_
    refine ex_branch (fun ρ' => ρ' "numbers" = some (dl (((Txt.split u (Str.ofString ".")).map fun r => Dat.int (nI r)) ++ [.none, .none])) ∧ ρ' "bare" = some (db bare') ∧ ρ' "build" = some (.dat build) ∧ ρ' "pre" = some (.dat (if (isDN pre && !isDN build) = true then .tuple [] else pre))) ?_ ?_
    · by_cases hq : (isDN pre && !isDN build) = true
      · rw [if_pos hq]
        refine ⟨_, ex_if (et_boolop (ets_and (et_compare (d₁ := .dat pre) (by walk_at "leaf") (by walk_at "leaf") op_is_none) fun _ => ets_and (et_compare (d₁ := .dat build) (by walk_at "leaf") (by walk_at "leaf") op_isnot_none) fun _ => ets_and_nil)) (fun _ => ex_one (ex_assign O (ev_tuple (l := []) evs_nil (by decide)) (by kernel_rfl))) (fun q => ?_), by walk_at "lk", by walk_at "lk", by walk_at "lk", by walk_at "lk"⟩
        exfalso
        rw [isN_isDN, isN_isDN, Bool.and_true, hq] at q
        cases q
      · rw [if_neg hq]
        refine ⟨_, ex_if (et_boolop (ets_and (et_compare (d₁ := .dat pre) (by walk_at "leaf") (by walk_at "leaf") op_is_none) fun _ => ets_and (et_compare (d₁ := .dat build) (by walk_at "leaf") (by walk_at "leaf") op_isnot_none) fun _ => ets_and_nil)) (fun q => ?_) (fun _ => ex_nil), by walk_at "lk", by walk_at "lk", by walk_at "lk", by walk_at "lk"⟩
        exfalso
        rw [isN_isDN, isN_isDN, Bool.and_true] at q
        exact hq q
    clear f1 f2 f3 f4 ρ
    rintro ρ ⟨f1, f2, f3, f4⟩
    refine ex_ret (ex_return (ev_tuple (l := [.tuple (due (Txt.split u (Str.ofString ".")) pre build), .bool bare']) (evs_cons (ev_tuple (l := due (Txt.split u (Str.ofString ".")) pre build) (evs_cons (ev_sub (by walk_at "leaf") (by walk_at "leaf") (sub_list (i := 0) (by decide) (by decide) (nth_some hl1 (k := 0) (by decide)) (fun _ _ => rfl) (fun _ _ => rfl))) (evs_cons (ev_sub (by walk_at "leaf") (by walk_at "leaf") (sub_list (i := 1) (by decide) (by decide) (nth_some hl1 (k := 1) (by decide)) (fun _ _ => rfl) (fun _ _ => rfl))) (evs_cons (ev_sub (by walk_at "leaf") (by walk_at "leaf") (sub_list (i := 2) (by decide) (by decide) (nth_some hl1 (k := 2) (by decide)) (fun _ _ => rfl) (fun _ _ => rfl))) (evs_cons (by walk_at "leaf") (evs_cons (by walk_at "leaf") evs_nil))))) (by show 5 ≤ 1000; decide)) (evs_cons (by walk_at "leaf") evs_nil)) (by show 2 ≤ 1000; decide)))
end Mine
end
end
section
open PySem PySem.W PyProof.Rows PySem.Spec PySem.Calls
set_option maxRecDepth 100000
set_option linter.unusedVariables false
noncomputable section
namespace Mine
theorem kind_iter : builtinKind "iter" = none := by kernel_rfl
theorem plain_iter : plainId "iter" = true := by decide +kernel
theorem entry_iter : entryFor table "iter" = some Builtin.«iter» := entryFor_of_tree (by kernel_rfl)
theorem args_iter (a : Value) : argsOk "iter" ⟨[a], []⟩ := by unfold argsOk; kernel_rfl
abbrev itObj (t : Addr) : Obj := { cls := .type "tuple_iterator", data := .fields #[.ref t, .int 0 0] }
theorem call_iter {prog : Program} {w : World} {A : Around} {E : Value → Shared → Prop} {s : Shared} {t : Addr} {items : Array Value} {Q : Value → Shared → Prop} (ht : IsTup s.heap t items)
    (h : Q (.ref s.heap.objs.size) { s with heap := s.heap.push (itObj t) }) : wpAny (model prog w) A (call (.builtin "iter") [.ref t]) Q E s := by
  refine call_function_entry kind_iter plain_iter entry_iter (args_iter _) ?_
  unfold Builtin.«iter»
  refine wpAny_bind (wpAny_of_eq (a := [.ref t]) rfl ?_)
  exact wpAny_bind (iter_tuple ht (wpAny_pure ⟨_, rfl, h⟩))
theorem walksS_of {prog : Program} {w : World} {A : Around} {I : Addr} {fp wr : List Addr} {n : Nat} {Pn : Nat → Value → Prop} {Sn : Nat → Heap → Prop} (W : Walks prog w A I fp wr n Pn Sn) :
    WalksS prog w A I fp wr (fun a b => a = b) n Pn (fun i s => Sn i s.heap) where
  sub := W.sub
  grefl := fun _ => rfl
  gtrans := fun _ _ _ a b => a.trans b
  frame := fun i s h' tk st _ k => W.frame i _ _ st k
  item := fun i s Q E hi st hQ => wpAny_with_toks (Nat.le_refl _) (W.item i s _ _ hi st fun v h' tk hP st' hk htk => hQ v _ hP st' ⟨hk, rfl, rfl, rfl, htk⟩)
  done := fun s Q E st hQ => wpAny_with_toks (Nat.le_refl _) (W.done s _ _ st fun h' tk hk htk => hQ _ ⟨hk, rfl, rfl, rfl, htk⟩)
  self := W.self |> fun f i s Q E st q => f i s Q E st q
theorem cwQ {c : Cx} {ρ : Rho} {m : Str → Option Value} {news : Led} {s : Shared} {f : Value} {pos : Pos} {e : Expr} {rest : List Expr} {ds : List D} {Q : Value → Shared → Prop} {E : Value → Shared → Prop}
    (hk : ∀ h, Keepable c f h) (ha : EVs c ρ (e :: rest) ds) (S : St c m news s) (hρ : Loc ρ m news) (hQ : ∀ vs n' s', news ⊆ n' → St c m n' s' → DAll n' vs ds → wpAny c.M c.A (call f vs []) Q E s') :
    wpAny c.M c.A (callWith pos f [] (backTo pos (starEach (e :: rest) c.en)) (backToKw pos (keywordEach [] c.en))) Q E s := by
  have hkw : Kws c ρ [] [] := trivial
  refine callWith_of (P := Keepable c f) (by rw [ha.plain, (Kws.all hkw).2]; rfl) (fun h q => q) ?_
  cases ds with
  | nil => exact ha.elim
  | cons d ds =>
    refine evalArgs_kw2 (Kws.all hkw).1 (ha.run S hρ fun vs n₁ s₁ hn₁ S₁ hvs => ?_) ha.2.1
    refine hkw.run S₁ (hρ.mono hn₁) fun ks n₂ s₂ hn₂ S₂ hks => ⟨hk _, ?_⟩
    have : (((backToKw pos (keywordEach [] c.en)).filterMap (·.1)).zip ks) = [] := rfl
    rw [this]
    exact hQ vs n₂ s₂ (fun _ hp => hn₂ (hn₁ hp)) S₂ (hvs.mono hn₂)
def vno : List Str := ["parse", "_validate_kwargs", "_validate_identifiers", "_coerce", "_build_precedence_key"]
def vfs (ma mi pa pre bu pt : Dat) : List (Str × Dat) := [("major", ma), ("minor", mi), ("patch", pa), ("prerelease", pre), ("build", bu), ("partial", pt)]
abbrev verD (ma mi pa pre bu pt : Dat) : D := .inst 457 (vfs ma mi pa pre bu pt) vno
theorem ga_fld {c : Cx} {fs : List (Str × Dat)} {no : List Str} {name : Str} {d : Dat} (hd : fs.lookup name = some d) (h1 : plainGet (KF c.w) 457 name = true) (h3 : findIn (KF c.w) (.ref 457) name = some none) : GA c (.inst 457 fs no) name (.dat d) :=
  ga_inst hd h1 (by kernel_rfl) h3 (by kernel_rfl)
/-- x.__iter__(): a fresh iterator over a tuple of l -/
def ITR (c : Cx) (d : D) (l : List Dat) : Prop :=
  ∀ (A : Around), Near c A → ∀ m news s v Q E, St c m news s → DIn news v d →
    (∀ it t n' nn vs s', news ⊆ n' → (∀ p ∈ n', p.1 ≠ it) → St c m ((it, itObj t) :: n') s' → (t, ({ cls := .type "tuple", data := .seq (List.toArray vs) nn } : Obj)) ∈ n' → DatAll n' vs l → Q (.ref it) s') → wpAny c.M A (call (.ref 382) [v]) Q E s
local macro_rules | `(tactic| walk_at "leaf") => `(tactic| first | exact ev_str | exact ev_int | exact ev_none | exact ev_bool | exact ev_local (by assumption) (by with_unfolding_all rfl) (by kernel_rfl) (by kernel_rfl))
abbrev itPost (c : Cx) (m : Str → Option Value) (news : Led) (l : List Dat) (Q : Value → Shared → Prop) : Prop :=
  ∀ it t n' nn vs s', news ⊆ n' → (∀ p ∈ n', p.1 ≠ it) → St c m ((it, itObj t) :: n') s' → (t, ({ cls := .type "tuple", data := .seq (List.toArray vs) nn } : Obj)) ∈ n' → DatAll n' vs l → Q (.ref it) s'
theorem itr_of {c : Cx} (O : c.Ok) (hr : 0 < c.rk) {name qual : Str} {params : Arguments} {body : List Stmt} {scope : Scope} {dV kV doc pm cdv ct oc : Value} {an od : Option Addr} {osl : Array (Option Value)} {d : D} {l : List Dat}
    (ho : (KF c.w).lookup 382 = some ⟨oc, od, .func (fnOf name qual params body scope dV kV doc pm an cdv ct), osl⟩) (hcd : codeIn (KF c.w) cdv qual = true)
    (hbind : ∀ v (s : Shared), BindsTo s (fnOf name qual params body scope dV kV doc pm an cdv ct) ⟨[v], []⟩ [("self", v)]) (hloc : scope.names.lookup (Str.ofString "self") = some .local)
    (hbody : ∀ mean mg mb base A₀ outer L g₀ os, Cx.Ok ⟨c.w, mean, mg, mb, base, A₀, outer, qual, scope, L, 382, cdv, g₀, true, 0, os, none⟩ → ∀ m news s Q E, St ⟨c.w, mean, mg, mb, base, A₀, outer, qual, scope, L, 382, cdv, g₀, true, 0, os, none⟩ m news s → Loc (rho [("self", d)]) m news →
      itPost ⟨c.w, mean, mg, mb, base, A₀, outer, qual, scope, L, 382, cdv, g₀, true, 0, os, none⟩ m news l (fun v s' => Q (.ret v) s') → wpAny (model P c.w) (A₀.deeper (envOf qual scope L 382 cdv)) (execs body (envOf qual scope L 382 cdv)) Q E s)
    (hk : scope.kind = .function) (hco : scope.isCoroutine = false) (hgen : scope.isGenerator = false) (hcell : ∀ x ∈ scope.names, x.2 ≠ .cell) : ITR c d l := by
  intro A NA m news s v Q E S hv hQ
  obtain ⟨h₀, G⟩ := S.gr
  have d1 := O.dep
  have u1 := O.uni
  have d2 := NA.dep
  have u2 := NA.uni
  refine wpAny_call (code_defT G.B G.F G.X G.N G.T O.XB O.TB G.D G.tb O.bt NA.fr ho hcd (by show A.depth < 1000; omega) (hbind v s) (by intro y hy; obtain rfl := List.mem_singleton.mp hy; exact hloc) (fun g L' h₁ FG F' N' B' X' T' D' tb' => ?_) O.kind hco hgen hk hcell)
  have O' : Cx.Ok ⟨c.w, c.mean, c.mg, c.mb, c.base, A, c.env :: c.outer, qual, scope, L', 382, cdv, g, true, 0, c.os, none⟩ := ⟨hk, O.XB, O.TB, NA.hh, by show A.depth + 8 * 0 ≤ 950; omega, by show A.units + 100 * 0 ≤ 9000; omega, hk, rfl, rfl, O.bt⟩
  have S' : St ⟨c.w, c.mean, c.mg, c.mb, c.base, A, c.env :: c.outer, qual, scope, L', 382, cdv, g, true, 0, c.os, none⟩ (fun y => [((Str.ofString "self" : Str), v)].reverse.lookup y) news { s with heap := h₁, toks := s.toks + 1 } :=
    ⟨S.os, S.ga, g, ⟨⟨fun _ => rfl, Trn.refl, B', F', X', T', D', tb'⟩, N', .none rfl⟩⟩
  refine hbody c.mean c.mg c.mb c.base A (c.env :: c.outer) L' g c.os O' _ news _ _ _ S' (loc_of (kvs := [("self", v)]) ⟨rfl, hv, trivial⟩) fun it t n' nn vs s' hn hne S' ht hvs => ?_
  obtain ⟨g', G'⟩ := S'.gr
  obtain rfl : g' = g := G'.fixd rfl
  exact leaveT_l G'.F G'.N fun F N => hQ it t n' nn vs s' hn hne ⟨S'.os, S'.ga, h₀, G.at F N (fun _ hp => List.mem_cons_of_mem _ (hn hp))⟩ ht hvs
theorem itr_ver {c : Cx} (O : c.Ok) (hr : 0 < c.rk) {ma mi pa pre bu pt : Dat} : ITR c (verD ma mi pa pre bu pt) [ma, mi, pa, pre, bu] := by
  refine itr_of O hr (by with_unfolding_all rfl) (by kernel_rfl) (fun v s => BindsTo.of_eq rfl) (by kernel_rfl) (fun mean mg mb base A₀ outer L g₀ os O m news s Q E S hρ hQ => ?_) rfl rfl rfl (by simp)
  refine wpAny_execs_cons (wpAny_Return_some (wpAny_Call_Name_kw (ev_B O (v := .builtin "iter") (k_iter _) PyProof.Rows.Boot.«iter» n_iter (by kernel_rfl) (by kernel_rfl) _ news _ _ _ S hρ fun f n₁ s₁ hn₁ S₁ hf => ?_)))
  cases hf
  refine cwQ (fun h => keep_plain (fun _ q => by cases q)) (evs_cons (d := dt [ma, mi, pa, pre, bu]) (ev_tuple (l := [ma, mi, pa, pre, bu]) (evs_cons (ev_attr (by walk_at "leaf") (ga_fld rfl (by kernel_rfl) (by kernel_rfl))) (evs_cons (ev_attr (by walk_at "leaf") (ga_fld rfl (by kernel_rfl) (by kernel_rfl))) (evs_cons (ev_attr (by walk_at "leaf") (ga_fld rfl (by kernel_rfl) (by kernel_rfl))) (evs_cons (ev_attr (by walk_at "leaf") (ga_fld rfl (by kernel_rfl) (by kernel_rfl))) (evs_cons (ev_attr (by walk_at "leaf") (ga_fld rfl (by kernel_rfl) (by kernel_rfl))) evs_nil))))) (by show 5 ≤ 1000; decide)) evs_nil) S₁ (hρ.mono hn₁) fun vs n₂ s₂ hn₂ S₂ hvs => ?_
  obtain ⟨v, rfl, hv⟩ := dall1 hvs
  obtain ⟨h₀, G⟩ := S₂.gr
  cases hv with | dat hv => cases hv with | tuple hm hr =>
    rename_i ax us nn
    refine call_iter (G.N.isTup hm) ?_
    exact hQ s₂.heap.objs.size ax n₂ nn us { s₂ with heap := s₂.heap.push (itObj ax) } (fun _ hp => hn₂ (hn₁ hp)) (ne_size G.N) (S₂.heap (n := s₂.toks) ⟨h₀, G.at (G.F.push (itObj ax)) (News.push G.F G.N (itObj ax))⟩) hm hr
end Mine
end
end
section
open PySem PySem.W PyProof.Rows PySem.Spec PySem.Calls
set_option maxRecDepth 100000
set_option linter.unusedVariables false
noncomputable section
namespace Mine
mutual
def noL : Dat → Bool
  | .list _ => false
  | .tuple l => noLs l
  | _ => true
def noLs : List Dat → Bool
  | [] => true
  | d :: l => noL d && noLs l
end
mutual
theorem datIn_dropL {I : Addr} {news : Led} (ho : ∀ o', (I, o') ∈ news → o'.cls ≠ .type "tuple") : ∀ {v : Value} {d : Dat}, DatIn news v d → noL d = true → DatIn (drop I news) v d
  | _, _, .none, _ => .none
  | _, _, .bool b, _ => .bool b
  | _, _, .int i t, _ => .int i t
  | _, _, .str x t, _ => .str x t
  | _, _, .bytes b t, _ => .bytes b t
  | _, _, .tuple h r, hn => .tuple (mem_drop.mpr ⟨h, fun e => ho _ (by rw [← show _ = I from e]; exact h) rfl⟩) (datAll_dropL ho r (by simpa [noL] using hn))
  | _, _, .list h r, hn => by simp [noL] at hn
theorem datAll_dropL {I : Addr} {news : Led} (ho : ∀ o', (I, o') ∈ news → o'.cls ≠ .type "tuple") : ∀ {vs : List Value} {ds : List Dat}, DatAll news vs ds → noLs ds = true → DatAll (drop I news) vs ds
  | _, _, .nil, _ => .nil
  | _, _, .cons h r, hn => by
    rw [noLs, Bool.and_eq_true] at hn
    exact .cons (datIn_dropL ho h hn.1) (datAll_dropL ho r hn.2)
end
theorem collect_inst {c : Cx} (O : c.Ok) (hcm : c.cmp = none) {A : Around} (NA : Near c A) (NA1 : Near c A.in1) {C : Addr} {fs : List (Str × Dat)} {no : List Str} {l : List Dat} (hI : ITR c (.inst C fs no) l) (hl : l.length ≤ 1000) (hnl : noLs l = true)
    (h1 : findIn (KF c.w) (.ref C) "__iter__" = some (some (.ref 382))) (h2 : isFn (KF c.w) (.ref 382) = true) (h3 : findIn (KF c.w) (.ref C) "__len__" = some none) (h4 : findIn (KF c.w) (.ref C) "__length_hint__" = some none)
    {m : Str → Option Value} {news : Led} {s : Shared} {v : Value} {Q : List Value → Shared → Prop} {E : Value → Shared → Prop} (S : St c m news s) (hv : DIn news v (.inst C fs no))
    (hQ : ∀ n' vs s', news ⊆ n' → St c m n' s' → DatAll n' vs l → Q vs s') : wpAny c.M A (collect v) Q E s := by
  cases id hv with
  | inst a b e1 e2 =>
  rename_i x dx es nn
  unfold collect
  refine wpAny_bind (wpAny_runValue (codeAny_builtin F.entry_proto_collect ?_))
  rw [Around.under_plainId F.plain_proto_collect _]
  show wpAny _ A.in1 (newList [] >>= fun l => again (.builtin "list.__iadd__" ⟨[l, .ref x], []⟩)) _ _ s
  obtain ⟨h₀, G⟩ := S.gr
  refine wpAny_bind (newList_N G.F G.N (fun h₁ F₁ N₁ => ?_) (by decide))
  refine wpAny_pure ⟨plainId_quiet F.plain_list_iadd _, codeAny_builtin F.entry_list_iadd ?_⟩
  rw [Around.under_plainId F.plain_list_iadd _]
  show wpAny _ A.in1 (Builtin.List.listExtendWith (.ref s.heap.objs.size) (.ref x) (.ref s.heap.objs.size)) _ _ _
  have S₁ : St c m ((s.heap.objs.size, { cls := .type "list", data := .seq ([] : List Value).toArray }) :: news) { s with heap := h₁ } := S.heap (n := s.toks) ⟨h₀, G.at F₁ N₁⟩
  generalize hSx : s.heap.objs.size = Sx at *
  have hxS : Sx ≠ x := fun q => ne_size G.N _ a (q ▸ hSx.symm)
  obtain ⟨h₀₁, G₁⟩ := S₁.gr
  have I₁ : W.InstAt h₁ x (instObj C dx) C (some (dictOf es nn)) := inst_at G₁ (List.mem_cons_of_mem _ a) (List.mem_cons_of_mem _ b)
  have hsame : Builtin.List.listSameRef (.ref Sx) (.ref x) = false := by simp [Builtin.List.listSameRef, hxS]
  unfold Builtin.List.listExtendWith
  refine wpAny_bind (I₁.type.here ?_)
  rw [if_neg (by rw [hsame]; exact Bool.false_ne_true)]
  refine wpAny_bind (owit_iter G₁.F G₁.X I₁ h1 h2 ?_)
  refine hI A.in1 NA1 m _ _ (.ref x) _ _ S₁ (hv.mono (List.subset_cons_self _ _)) fun it t n' k vs s₂ hn hne S₂ ht hvs => ?_
  obtain ⟨h₀₂, G₂⟩ := S₂.gr
  have hit := (G₂.N _ (List.mem_cons_self ..)).1
  refine wpAny_specialOf (T := "tuple_iterator") (r := some (.builtin "tuple_iterator.__next__")) ⟨_, hit, rfl⟩ (by rw [typeLookup_type, builtinLookup_eq_fast]; kernel_rfl) ?_
  have X₂ := G₂.X.keeps G₂.F.keep
  have I₂ : W.InstAt s₂.heap x (instObj C dx) C (some (dictOf es nn)) := inst_at G₂ (List.mem_cons_of_mem _ (hn (List.mem_cons_of_mem _ a))) (List.mem_cons_of_mem _ (hn (List.mem_cons_of_mem _ b)))
  refine wpAny_bind (wpAny_holding ?_)
  unfold Builtin.List.listLengthHint
  refine wpAny_bind (wpAny_bind (I₂.type.here ((looks_findIn X₂ h3).here ?_)))
  show wpAny _ A.in1 (specialOf (Value.ref x) (Str.ofString "__length_hint__") >>= _) _ _ _
  refine wpAny_bind (wpAny_bind (I₂.type.here ((looks_findIn X₂ h4).here ?_)))
  refine wpAny_pure ?_
  rw [if_pos (by rfl)]
  have hS₂ : s₂.heap.get? Sx = some { cls := .type "list", data := .seq ([] : List Value).toArray } := (G₂.N _ (List.mem_cons_of_mem _ (hn (List.mem_cons_self ..)))).1
  refine wpAny_bind (wpAny_rule ?_)
  show wpAny _ A.in1 ((updateSeq Sx (·.push .none) >>= fun _ => updateSeq Sx (·.pop)) >>= _) _ _ _
  refine wpAny_bind (wpAny_bind (wpAny_updateSeq hS₂ rfl ?_ (by decide) (by decide)))
  have hS₃ := Heap.get?_update_self (Obj.mapSeq (·.push Value.none)) hS₂ rfl
  refine wpAny_updateSeq hS₃ rfl ?_ (by decide) (by decide)
  have hS₄ := Heap.get?_update_self (Obj.mapSeq (·.pop)) hS₃ rfl
  have k4 : ∀ b o, b ≠ Sx → s₂.heap.get? b = some o → ((s₂.heap.update Sx (Obj.mapSeq (·.push Value.none))).update Sx (Obj.mapSeq (·.pop))).get? b = some o := fun b o hb e =>
    (Heap.get?_update_other _ _ (fun h : Sx = b => hb h.symm)).trans ((Heap.get?_update_other _ _ (fun h : Sx = b => hb h.symm)).trans e)
  have hitS : it ≠ Sx := fun q => hne _ (hn (List.mem_cons_self ..)) q.symm
  have htS : t ≠ Sx := fun q => by
    have e := (G₂.N _ (List.mem_cons_of_mem _ ht)).1
    rw [show (t, ({ cls := .type "tuple", data := .seq (List.toArray vs) k } : Obj)).1 = Sx from q, hS₂] at e
    have e2 : Value.type "list" = Value.type "tuple" := congrArg Obj.cls (Option.some.inj e)
    exact absurd e2 (by decide)
  have htit : t ≠ it := hne _ ht
  have W := walksS_of (Walks.tuple (prog := P) (w := c.w) (A := A.in1) NA1.hh it t htit vs.toArray)
  have lv := lenOf hvs
  refine wpAny_pure ⟨plainId_quiet F.plain_extend_loop _, codeAny_extend_loopS W (by rw [List.size_toArray, sizeLine_eq]; omega) Sx (by simp; exact ⟨Ne.symm hitS, Ne.symm htS⟩) _ vs.toArray.size 0 _ _ _ rfl (Nat.zero_le _) ⟨⟨_, k4 _ _ hitS hit, rfl, rfl⟩, ⟨_, k4 _ _ htS (G₂.N _ (List.mem_cons_of_mem _ ht)).1, rfl, _, rfl⟩⟩ hS₄ (ItemsOf.nil _) fun s' acc' c' hm hS' hacc => ?_⟩
  show wpAny _ A (load Sx >>= _) _ _ s'
  refine wpAny_bind (wpAny_load hS' ?_)
  refine wpAny_pure ?_
  have eacc : acc'.toList = vs := by
    apply List.ext_getElem?
    intro j
    have hsz : acc'.size = vs.length := by rw [hacc.1, List.size_toArray]
    by_cases hj : j < acc'.size
    · have e1 : acc'[j]? = some acc'[j] := Array.getElem?_eq_getElem hj
      have e2 := hacc.2 j _ e1
      rw [Array.getElem?_toList, e1, ← e2, List.getElem?_toArray]
    · rw [Array.getElem?_toList, Array.getElem?_eq_none (by omega), List.getElem?_eq_none (by omega)]
  show Q acc'.toList s'
  rw [eacc]
  have K : ∀ b o, b ≠ Sx → b ≠ it → s₂.heap.get? b = some o → s'.heap.get? b = some o := fun b o h1 h2 e => hm.heap b o (by simp; exact ⟨h1, h2⟩) (k4 b o h1 e)
  have nSx := G₂.N _ (List.mem_cons_of_mem _ (hn (List.mem_cons_self ..)))
  have nit := G₂.N _ (List.mem_cons_self ..)
  have F₅ : Fr h₀₂ c.L s'.heap (c.fm m) := ⟨G₂.F.ns.at' fun o e => K _ o (Ne.symm nSx.2.1) (Ne.symm nit.2.1) e, fun b o e => K b o (fun q => by subst q; rw [nSx.2.2] at e; cases e) (fun q => by subst q; rw [nit.2.2] at e; cases e) (G₂.F.keep b o e), G₂.F.above⟩
  have own : ∀ o', (Sx, o') ∈ n' → o'.cls ≠ .type "tuple" := fun o' ho' => by
    have e1 := (G₂.N _ (List.mem_cons_of_mem _ ho')).1
    rw [hS₂] at e1
    have e2 : _ = o' := Option.some.inj e1
    rw [← e2]
    show Value.type "list" ≠ Value.type "tuple"
    exact (by decide)
  refine hQ (drop Sx n') vs s' (fun p hp => mem_drop.mpr ⟨hn (List.mem_cons_of_mem _ hp), fun q => ?_⟩) ⟨hm.os.trans S₂.os, ?_, h₀₂, G₂.toGr0.at F₅, fun p hp => ?_, .none hcm⟩ (datAll_dropL own hvs hnl)
  · exact ne_size G.N p hp (q.trans hSx.symm)
  · have : s'.gens = s₂.gens := hm.gens.symm
    rw [this]; exact S₂.ga
  · have hp' := mem_drop.mp hp
    exact ⟨K _ _ hp'.2 (hne p hp'.1) (G₂.N p (List.mem_cons_of_mem _ hp'.1)).1, (G₂.N p (List.mem_cons_of_mem _ hp'.1)).2⟩
theorem typeOf_at {M : Model} {A : Around} {s : Shared} {x : Addr} {o : Obj} {cl : Value} {Q : Value → Shared → Prop} {E : Value → Shared → Prop} (ho : s.heap.get? x = some o) (hc : o.cls = cl) (hQ : Q cl s) : wpAny M A (typeOf (.ref x)) Q E s := by
  subst hc
  simp only [typeOf]; exact wpAny_bind (wpAny_load ho (wpAny_pure hQ))
theorem cb_tuple_inst {c : Cx} (O : c.Ok) (hcm : c.cmp = none) (N2 : Near c c.A.in1.in1) (N3 : Near c c.A.in1.in1.in1) {C : Addr} {fs : List (Str × Dat)} {no : List Str} {l : List Dat} (hI : ITR c (.inst C fs no) l) (hl : l.length ≤ 1000) (hnl : noLs l = true)
    (h1 : findIn (KF c.w) (.ref C) "__iter__" = some (some (.ref 382))) (h2 : isFn (KF c.w) (.ref 382) = true) (h3 : findIn (KF c.w) (.ref C) "__len__" = some none) (h4 : findIn (KF c.w) (.ref C) "__length_hint__" = some none) : CB c (.type "tuple") [] [.inst C fs no] (some (dt l)) := by
  intro m news s vs Q E S hvs hQ
  refine d1 (P := fun vs => wpAny c.M c.A (call _ vs) Q E s) (fun v hv => ?_) vs hvs
  obtain ⟨h₀, G⟩ := S.gr
  obtain ⟨x, rfl⟩ : ∃ x, v = .ref x := by cases id hv with | inst a b e1 e2 => exact ⟨_, rfl⟩
  refine callType_codes (Q₁ := fun obj s₁ => s₁.TypeIs obj "tuple" ∧ Q obj s₁) F.called_tuple (F.typeCall_tuple_1 _) F.entry_object_init ?_ fun obj s₁ h₁ => ?_
  · refine codeAny_of_tree ?_
    show wpAny _ c.A.in1.in1 (do checkBuiltinCall "tuple.__new__" ⟨[.type "tuple", .ref x], []⟩; again (.builtin "tuple.__new__" ⟨[.type "tuple", .ref x], []⟩)) _ _ s
    refine wpAny_bind (wpAny_of_eq (F.newCall_tuple_1 _) (wpAny_pure ⟨plainId_quiet F.plain_tuple_new _, codeAny_builtin F.entry_tuple_new ?_⟩))
    rw [Around.under_plainId F.plain_tuple_new _]
    have hsub := sub_tuple_self
    have hinit := init_tuple_lookup
    have hmh := madeHere_tuple
    obtain ⟨o, ho, hco⟩ : ∃ o, s.heap.get? x = some o ∧ o.cls = .ref C := by cases id hv with | inst a b e1 e2 => exact ⟨_, (G.N _ a).1, rfl⟩
    wp_walk using typeOf_at ho hco, (collect_inst O hcm N2 N3 hI hl hnl h1 h2 h3 h4 S hv)
    intro n' vs' s' hn S' hvs'
    show wpAny _ _ (Builtin.Tuple.tupleExact _ >>= fun v => ret v) _ _ _
    obtain ⟨h₁, G'⟩ := S'.gr
    have lv := lenOf hvs'
    refine wpAny_bind ?_
    refine newTuple_N (vs := vs') G'.F G'.N (fun h₂ F₂ N₂ => ?_) (by rw [lv, sizeLine_eq]; omega)
    refine wpAny_pure ?_
    exact ⟨⟨_, (N₂ _ (List.mem_cons_self ..)).1, rfl⟩, hQ.ok (fun p hp => List.mem_cons_of_mem _ (hn hp)) (s' := { s' with heap := h₂ }) (S'.heap ⟨h₁, G'.at F₂ N₂⟩) (.dat (.tuple (List.mem_cons_self ..) (hvs'.mono fun _ hp => List.mem_cons_of_mem _ hp)))⟩
  · exact ⟨h₁.1, F.args_object_init_2 obj _, object_init_meets F.called_tuple.init.lookup F.called_tuple.made (by decide) P c.w c.A.in1 _ s₁ ⟨h₁.1, rfl, h₁.2⟩⟩
theorem near_in {c : Cx} {m : Str → Option Value} {news : Led} {s : Shared} (O : c.Ok) (S : St c m news s) : Near c c.A.in1.in1 ∧ Near c c.A.in1.in1.in1 := by
  have N := near_own O S
  refine ⟨⟨O.hh, N.fr, ?_, ?_⟩, ⟨O.hh, N.fr, ?_, ?_⟩⟩
  · show c.A₀.depth + 1 ≤ _; omega
  · show c.A₀.units + 3 + 1 + 1 ≤ _; omega
  · show c.A₀.depth + 1 ≤ _; omega
  · show c.A₀.units + 3 + 1 + 1 + 1 ≤ _; omega
theorem cb_tuple_ver {c : Cx} (O : c.Ok) (hcm : c.cmp = none) (hr : 0 < c.rk) {ma mi pa pre bu pt : Dat} (hnl : noLs [ma, mi, pa, pre, bu] = true) : CB c (.type "tuple") [] [verD ma mi pa pre bu pt] (some (dt [ma, mi, pa, pre, bu])) :=
  fun m news s vs Q E S hvs hQ => cb_tuple_inst O hcm (near_in O S).1 (near_in O S).2 (itr_ver O hr) (by show 5 ≤ 1000; decide) hnl (by kernel_rfl) (by kernel_rfl) (by kernel_rfl) (by kernel_rfl) m news s vs Q E S hvs hQ
end Mine
end
end
section
open PySem PySem.W PyProof.Rows PySem.Spec PySem.Calls
set_option maxRecDepth 100000
set_option linter.unusedVariables false
noncomputable section
namespace Mine
theorem cb_str_inst {c : Cx} (O : c.Ok) {rk : Nat} {C f : Addr} {fs : List (Str × Dat)} {no : List Str} {z : Str} (h : FN c.w rk false f [.inst C fs no] [] (some (ds z))) (hr : rk < c.rk)
    (hs : findIn (KF c.w) (.ref C) "__str__" = some (some (.ref f))) (hf : isFn (KF c.w) (.ref f) = true) : CB c (.type "str") [] [.inst C fs no] (some (ds z)) := by
  intro m news s vs Q E S hvs hQ
  refine d1 (P := fun vs => wpAny c.M c.A (call _ vs) Q E s) (fun v hv => ?_) vs hvs
  obtain ⟨h₀, G⟩ := S.gr
  have N := near_in O S
  have u1 := O.uni
  cases id hv with
  | inst a b e1 e2 =>
  rename_i x dx es nn
  have I : W.InstAt s.heap x (instObj C dx) C (some (dictOf es nn)) := inst_at G a b
  have hcl : cLine = 9900 := rfl
  refine kso_call (K := KF c.w) (by show c.A₀.units + 3 + 1 + 1 < _; omega) (G.X.keeps G.F.keep) I hs hf ?_
  refine wpAny_call (h c O rfl hr (fun q => by cases q) c.A.in1.in1 N.1 m news s [.ref x] [] _ S ⟨hv, trivial⟩ trivial ?_)
  intro v n' s' hn S' hv'
  cases hv' with | dat hv' => cases hv'; exact hQ.ok hn S' (.dat (.str _ _))
end Mine
end
end
section
open PySem PySem.W PyProof.Rows PySem.Spec PySem.Calls
set_option maxRecDepth 100000
set_option linter.unusedVariables false
noncomputable section
namespace Mine
section
variable {prog : Program} {w : World} {A : Around} {E : Value → Shared → Prop} {s : Shared}
theorem sliceApplied_3 {sl : Addr} {u : Tok} {Q : Int × Int × Nat → Shared → Prop} (hs : s.heap.IsSliceOf sl .none (.int 3 u) .none) (h : Q (0, 1, 3) s) :
    wpAny (model prog w) A (Builtin.Slice.sliceApplied (.ref sl) (pure (5 : Int))) Q E s := by
  obtain ⟨os, hos, hcs, hds⟩ := id hs
  unfold Builtin.Slice.sliceApplied Builtin.Slice.sliceFields
  refine wpAny_bind (wpAny_bind (wpAny_field hos hds (x := .none) rfl (wpAny_bind (wpAny_field hos hds (x := .int 3 u) rfl (wpAny_bind (wpAny_field hos hds (x := .none) rfl (wpAny_pure ?_)))))))
  refine wpAny_bind (slicePart_none ?_)
  show wpAny _ _ (if ((1 : Int) == 0) = true then _ else _) _ _ s
  rw [if_neg (by decide)]
  refine wpAny_bind (slicePart_none (wpAny_bind (slicePart_int (wpAny_bind (wpAny_pure ?_)))))
  exact wpAny_pure h
theorem getItem_tuple_3 {t sl : Addr} {a b e f g : Value} {u : Tok} {Q : Value → Shared → Prop} (ht : IsTup s.heap t #[a, b, e, f, g]) (hs : s.heap.IsSliceOf sl .none (.int 3 u) .none)
    (h : Q (.ref s.heap.objs.size) { s with heap := s.heap.push { cls := .type "tuple", data := .seq [a, b, e].toArray } }) : wpAny (model prog w) A (getItem (.ref t) (.ref sl)) Q E s := by
  have hdrop : sizeOk (.seq [a, b, e].toArray) := by show 3 ≤ sizeLine; rw [sizeLine_eq]; omega
  obtain ⟨os, hos, hcs, hds⟩ := id hs
  have hTs : s.TypeIs (.ref sl) "slice" := ⟨os, hos, hcs⟩
  unfold getItem
  try with_reducible refine wpAny_holding ?_
  first | refine wpAny_bind (wpAny_pure ?_) | skip
  refine wpAny_bind (wpAny_sequenceKey ht.typeIs (by decide) ?_)
  refine wpAny_bind (wpAny_callSpecial?_slot (name := Str.ofString "__getitem__") ht.typeIs slot_tuple_getitem
    (wpAny_call_entry slot_tuple_getitem ht.typeIs entry_tuple_getitem ?_ (args_tuple_getitem _ _)))
  show wpAny _ _ (Builtin.Tuple.tupleItemsOf (.ref t) >>= _) _ _ s
  refine wpAny_bind (tupleItemsOf_ ht ?_)
  refine wpAny_bind (wpAny_typeOf hTs ?_)
  rw [if_pos (by decide)]
  refine wpAny_bind (sliceApplied_3 hs ?_)
  show wpAny _ _ (if ((0 : Int) == 0 && (1 : Int) == 1 && (3 : Nat) == 5) = true then _ else _) _ _ s
  rw [if_neg (by decide)]
  show wpAny _ _ (Builtin.Tuple.tupleExact [a, b, e].toArray >>= _) _ _ s
  first
    | exact wpAny_bind (m := Builtin.Tuple.tupleExact _) (wpAny_newObj_type (wpAny_pure ⟨_, rfl, wpAny_pure h⟩) hdrop)
    | exact wpAny_bind (m := Builtin.Tuple.tupleExact _) (wpAny_newObj_type (wpAny_bind (wpAny_pure (wpAny_pure ⟨_, rfl, wpAny_pure h⟩))) hdrop)
end
theorem slice_tuple_3 {prog : Program} {w : World} {A : Around} {E : Value → Shared → Prop} {s : Shared} {h₀ : Heap} {L : Addr} {m : Str → Option Value} {news : List (Addr × Obj)} {value slice : Expr} {t : Addr} {a b e f g : Value} {u : Tok} {Q : Value → Shared → Prop}
    (F : Fr h₀ L s.heap m) (N : News h₀ L s.heap news) (ht : IsTup s.heap t #[a, b, e, f, g])
    (h : ∀ h', Fr h₀ L h' m → News h₀ L h' ((s.heap.objs.size + 1, { cls := .type "tuple", data := .seq [a, b, e].toArray }) :: news) → Q (.ref (s.heap.objs.size + 1)) { s with heap := h' })
    (hs : subscripted slice false (.ref t) (.ref s.heap.objs.size) = operate [.ref s.heap.objs.size, .ref t] (getItem (.ref t) (.ref s.heap.objs.size)))
    (hg : ∀ r, letTemporaryGo value (.ref t) r = pure ()) :
    wpAny (model prog w) A (subscriptTail value slice (.ref t) (.ref s.heap.objs.size)) Q E { s with heap := s.heap.push { cls := .type "slice", data := .fields #[.none, .int 3 u, .none] } } := by
  have ht' : IsTup (s.heap.push { cls := .type "slice", data := .fields #[.none, .int 3 u, .none] }) t #[a, b, e, f, g] := ht.keeps fun _ _ e => Heap.get?_push_of_some _ e
  refine subscriptTail_ops (s := { s with heap := s.heap.push { cls := .type "slice", data := .fields #[.none, .int 3 u, .none] } }) ht'.typeIs slot_tuple_getitem.lookup
    (getItem_tuple_3 ht' (Heap.IsSliceOf.new ..) ?_) hs hg
  have N1 := News.push (F.push { cls := .type "slice", data := .fields #[.none, .int 3 u, .none] }) (N.grown fun _ _ e => Heap.get?_push_of_some _ e) { cls := .type "tuple", data := .seq [a, b, e].toArray }
  rw [Heap.size_push] at N1
  show Q (.ref (s.heap.push _).objs.size) _
  rw [Heap.size_push]
  exact h _ ((F.push _).push _) N1
theorem ev_slice3 {c : Cx} {ρ : Rho} {value : Expr} {hi : Option Expr} {p pos : Pos} {a b e f g : Dat} (h1 : EV c ρ value (some (dt [a, b, e, f, g]))) (hb : PV c ρ hi (some 3))
    (hs : ∀ (v i : Value), subscripted (.Slice none hi none p) false v i = operate [i, v] (getItem v i)) (ht : ∀ o r : Value, letTemporaryGo value o r = pure ()) :
    EV c ρ (.Subscript value (.Slice none hi none p) pos) (some (dt [a, b, e])) := by
  intro m news s Q E S hρ hQ
  refine Subscript_ (h1 m news s _ _ S hρ fun v n₁ s₁ hn₁ S₁ hv => ?_)
  cases hv with | dat hv => cases hv with | tuple hm hr =>
  refine wpAny_Slice (PV.run (e := none) (o := none) trivial S₁ (hρ.mono hn₁) fun ua n₂ s₂ hn₂ S₂ => hb.run S₂ (hρ.mono fun _ hp => hn₂ (hn₁ hp)) fun ub n₃ s₃ hn₃ S₃ => ?_)
  refine wpAny_pure ?_
  obtain ⟨h₀, G⟩ := S₃.gr
  cases hr with | cons r1 hr => cases hr with | cons r2 hr => cases hr with | cons r3 hr => cases hr with | cons r4 hr => cases hr with | cons r5 hr => cases hr with | nil =>
  refine slice_tuple_3 G.F G.N (G.N.isTup (hn₃ (hn₂ hm))) (fun h' F N => ?_) (hs _ _) (fun r => ht _ r)
  exact hQ.ok (fun _ hp => List.mem_cons_of_mem _ (hn₃ (hn₂ (hn₁ hp)))) (S₃.heap ⟨h₀, G.at F N⟩) (.dat (.tuple (List.mem_cons_self ..) (.cons (r1.mono fun _ hp => List.mem_cons_of_mem _ (hn₃ (hn₂ hp))) (.cons (r2.mono fun _ hp => List.mem_cons_of_mem _ (hn₃ (hn₂ hp))) (.cons (r3.mono fun _ hp => List.mem_cons_of_mem _ (hn₃ (hn₂ hp))) .nil)))))
end Mine
end
end
section
open PySem PySem.W PyProof.Rows PySem.Spec PySem.Calls
set_option maxRecDepth 100000
set_option linter.unusedVariables false
noncomputable section
namespace Mine
/-- x or () -/
def orT : Dat → Dat
  | .none => .tuple []
  | d => d
def isTN : Dat → Bool
  | .none => true
  | .tuple _ => true
  | _ => false
theorem ev_orT {c : Cx} {ρ : Rho} {x : Expr} {pos p : Pos} {k : Nat} {d : Dat} (hd : isTN d = true) (ht : topOk d) (h : EV c ρ x (some (.dat d))) : EV c ρ (.BoolOp .Or [x, .Tuple [] k p] pos) (some (.dat (orT d))) := by
  have hT : EV c ρ (.Tuple [] k p) (some (dt [])) := ev_tuple (l := []) evs_nil (by show 0 ≤ 1000; decide)
  match d, hd, ht with
  | .none, _, _ => exact ev_or (b := false) h (ob_dat (x := .none) trivial) (fun _ => ev_bool_one hT) (fun q => by cases q)
  | .tuple [], _, ht => exact ev_or (b := false) h (ob_dat (x := .tuple []) ht) (fun _ => ev_bool_one hT) (fun q => by cases q)
  | .tuple (y :: l), _, ht => exact ev_or (b := true) h (ob_dat (x := .tuple (y :: l)) ht) (fun q => by cases q) (fun _ => rfl)
theorem ev_andL {c : Cx} {ρ : Rho} {x y : Expr} {rest : List Expr} {pos : Pos} {a b : Bool} (h : EV c ρ x (some (db a))) (k : EV c ρ (.BoolOp .And (y :: rest) pos) (some (db b))) : EV c ρ (.BoolOp .And (x :: y :: rest) pos) (some (db (a && b))) := by
  refine ev_and h (ob_dat (x := .bool a) trivial) (fun q => ?_) (fun q => ?_)
  · have q' : a = true := q
    rw [q', Bool.true_and]; exact k
  · have q' : a = false := q
    rw [q', Bool.false_and]
local macro_rules | `(tactic| walk_at "leaf") => `(tactic| first | exact ev_str | exact ev_int | exact ev_none | exact ev_bool | exact ev_local (by assumption) (by with_unfolding_all rfl) (by kernel_rfl) (by kernel_rfl) | exact ev_B (by assumption) (k_isi _) (v := .builtin "isinstance") (by with_unfolding_all rfl) n_isi (by kernel_rfl) (by kernel_rfl))
local macro_rules | `(tactic| walk_at "fld") => `(tactic| exact ev_attr (by walk_at "leaf") (ga_fld rfl (by kernel_rfl) (by kernel_rfl)))
/-- Version.__eq__ -/
theorem fn_eq {w : World} {ma mi pa pre bu pt ma' mi' pa' pre' bu' pt' : Dat} {b1 b2 b3 b4 b5 : Bool}
    (k1 : kqdOk 9 ma = true) (k1' : kqdOk 9 ma' = true) (k2 : kqdOk 9 mi = true) (k2' : kqdOk 9 mi' = true) (k3 : kqdOk 9 pa = true) (k3' : kqdOk 9 pa' = true)
    (k4 : kqdOk 9 (orT pre) = true) (k4' : kqdOk 9 (orT pre') = true) (k5 : kqdOk 9 (orT bu) = true) (k5' : kqdOk 9 (orT bu') = true)
    (t4 : isTN pre = true) (t4' : isTN pre' = true) (t5 : isTN bu = true) (t5' : isTN bu' = true) (o4 : topOk pre) (o4' : topOk pre') (o5 : topOk bu) (o5' : topOk bu')
    (e1 : b1 = true ↔ ma = ma') (e2 : b2 = true ↔ mi = mi') (e3 : b3 = true ↔ pa = pa') (e4 : b4 = true ↔ orT pre = orT pre') (e5 : b5 = true ↔ orT bu = orT bu') :
    FN w 0 false 419 [verD ma mi pa pre bu pt, verD ma' mi' pa' pre' bu' pt'] [] (some (db (b1 && (b2 && (b3 && (b4 && b5)))))) := by
  refine fn_of (f := 419) (ho := by with_unfolding_all rfl) (by kernel_rfl) (o := .ret (db (b1 && (b2 && (b3 && (b4 && b5)))))) (binds_ok [("self", verD ma mi pa pre bu pt), ("other", verD ma' mi' pa' pre' bu' pt')] (fun news vs kvs s X a b => ?_) rfl) rfl (fun q => by cases q) (fun mean mg mb base A₀ outer L g₀ os O => ?_) rfl rfl rfl (by simp)
  · obtain ⟨v, v', rfl, a1, a2⟩ := dall2 a
    obtain rfl := kall0 b
    exact ⟨[("self", v), ("other", v')], BindsTo.of_eq rfl, rfl, a1, rfl, a2, trivial⟩
  · refine ex_cons (ex_if (et_not (et_value (ev_call (by walk_at "leaf") (evs_cons (by walk_at "leaf") (evs_cons (ev_attr (by walk_at "leaf") (ga_class (by kernel_rfl) (by kernel_rfl) (by kernel_rfl) (by kernel_rfl) (by kernel_rfl) (by kernel_rfl))) evs_nil)) kws_nil fun _ => (cb_isi (by kernel_rfl)).callable (fun _ q => by cases q)) (ob_dat (x := .bool true) trivial))) (fun q => by cases q) (fun _ => ex_nil)) ?_
    refine ex_ret (ex_return (ev_andL (ev_compare (by walk_at "fld") (by walk_at "fld") (op_eqB O k1 k1' e1)) (ev_andL (ev_compare (by walk_at "fld") (by walk_at "fld") (op_eqB O k2 k2' e2)) (ev_andL (ev_compare (by walk_at "fld") (by walk_at "fld") (op_eqB O k3 k3' e3)) (ev_andL (ev_compare (ev_orT t4 o4 (by walk_at "fld")) (ev_orT t4' o4' (by walk_at "fld")) (op_eqB O k4 k4' e4)) (ev_bool_one (ev_compare (ev_orT t5 o5 (by walk_at "fld")) (ev_orT t5' o5' (by walk_at "fld")) (op_eqB O k5 k5' e5))))))))
end Mine
end
end
section
open PySem PySem.W PyProof.Rows PySem.Spec PySem.Calls
set_option maxRecDepth 100000
set_option linter.unusedVariables false
noncomputable section
namespace Mine
theorem cn_max {w : World} {rk : Nat} : CN w rk false (.ref 110) [] [] (some .any) := cls_plain (by kernel_rfl) (by kernel_rfl)
end Mine
end
end
section
open PySem PySem.W PyProof.Rows PySem.Spec PySem.Calls
set_option maxRecDepth 100000
set_option linter.unusedVariables false
noncomputable section
namespace Mine
open Builtin Builtin._codecs
/-! text.encode('ascii') -/
theorem enc_tree (x : PySem.Str) (t u : Tok) : Builtin.«str.encode» ⟨[.str x t, .str (Str.ofString "ascii") u], []⟩ = (do ret (← encodeRoad "str.encode" (.str x t) x (Str.ofString "ascii") none)) := by
  with_unfolding_all rfl
theorem enc_road (x : PySem.Str) (self : Value) : encodeRoad "str.encode" self x (Str.ofString "ascii") none = (do mkBytes (← encodeNarrow "str.encode" asciiCodec none self x)) := by
  first | rfl | (unfold encodeRoad; rfl) | (unfold encodeRoad; simp only []; rfl) | kernel_rfl
theorem fold_size : ∀ (l : List Nat) (a : Array UInt8), (l.foldl (fun acc y => acc ++ (asciiCodec.bytesOf y).toArray) a).size = a.size + l.length
  | [], a => rfl
  | y :: l, a => by
    rw [List.foldl_cons, fold_size l, Array.size_append, List.size_toArray]
    show a.size + 1 + l.length = a.size + (l.length + 1)
    omega
theorem narrow_ok {M : Model} {A : Around} {E : Value → Shared → Prop} {s : Shared} {x : PySem.Str} {self : Value} {Q : Array UInt8 → Shared → Prop} (hA : ∀ k ∈ x.cps.toList, k < 128) (hx : x.length ≤ 1000) (h : ∀ out, out.size ≤ 1000 → Q out s) :
    wpAny M A (encodeNarrow "str.encode" asciiCodec none self x) Q E s := by
  unfold encodeNarrow
  simp only [Std.Legacy.Range.forIn_eq_forIn_range']
  have hx' : x.cps.size ≤ 1000 := hx
  refine wpAny_bind (wpAny_forIn_list _ (fun _ b s' => s' = s ∧ ((b.1 = 0 ∧ b.2.1 = #[]) ∨ (b.1 = x.cps.size ∧ b.2.1.size ≤ 1000))) _ (fun y rest b s' hs => ?_) (fun b s' hs => ?_) _ _ ⟨rfl, .inl ⟨rfl, rfl⟩⟩)
  · obtain ⟨rfl, hb⟩ := hs
    have hsz : b.2.1.size ≤ 1000 := by
      rcases hb with ⟨_, h2⟩ | ⟨_, h2⟩
      · rw [h2]; exact Nat.zero_le _
      · exact h2
    refine wpAny_ite ?_
    rw [if_neg (by rw [sizeLine_eq]; omega)]
    rcases hb with ⟨h1, h2⟩ | ⟨h1, h2⟩
    · rw [h1, h2]
      cases h0 : x.cps[0]? with
      | none => exact wpAny_pure (wpAny_pure (h _ (by simp)))
      | some c =>
        have hc : c < 128 := hA c (by
          have := Array.getElem?_eq_some_iff.mp h0
          obtain ⟨hlt, e⟩ := this
          rw [← e]; exact Array.mem_toList_iff.mpr (Array.getElem_mem hlt))
        have hbad : asciiCodec.bad c = false := decide_eq_false (by omega)
        have hf : Array.findIdx? asciiCodec.bad (x.cps.extract 0) = none := by
          rw [Array.findIdx?_eq_none_iff]
          intro k hk
          have hk' : k ∈ x.cps.toList := by
            have : x.cps.extract 0 = x.cps := by simp
            rw [this] at hk
            exact Array.mem_toList_iff.mpr hk
          exact decide_eq_false (by have := hA k hk'; omega)
        show wpAny M A (if (!asciiCodec.bad c) = true then _ else _) _ _ _
        rw [hbad, hf]
        rw [if_pos (show (!false) = true from rfl)]
        refine wpAny_pure ⟨rfl, .inr ⟨?_, ?_⟩⟩
        · show 0 + (x.cps.extract 0).size = x.cps.size
          simp
        · show (Array.foldl _ #[] ((x.cps.extract 0).extract 0 (x.cps.extract 0).size)).size ≤ 1000
          rw [← Array.foldl_toList, fold_size]
          simp
          omega
    · have h0 : x.cps[b.1]? = none := by rw [h1]; exact Array.getElem?_eq_none (Nat.le_refl _)
      rw [h0]
      exact wpAny_pure (wpAny_pure (h _ h2))
  · obtain ⟨rfl, hb⟩ := hs
    refine wpAny_pure (h _ ?_)
    rcases hb with ⟨_, h2⟩ | ⟨_, h2⟩
    · rw [h2]; exact Nat.zero_le _
    · exact h2
theorem call_encode {prog : Program} {w : World} {A : Around} {E : Value → Shared → Prop} {s : Shared} {x : PySem.Str} {t u : Tok} {Q : Value → Shared → Prop} (hA : ∀ k ∈ x.cps.toList, k < 128) (hx : x.length ≤ 1000)
    (h : ∀ b, Q (.bytes b s.toks) { s with toks := s.toks + 1 }) : wpAny (model prog w) A (call (.builtin "str.encode") [.str x t, .str (Str.ofString "ascii") u]) Q E s := by
  refine wpAny_call_entry F.slot_str_encode (typeIs_str _ _ _) F.entry_str_encode ?_ (F.args_str_encode_2 _ _)
  rw [enc_tree, enc_road]
  refine wpAny_bind (wpAny_bind (narrow_ok hA hx fun out ho => wpAny_mkBytes ?_ (by rw [sizeLine_eq]; omega)))
  exact wpAny_pure ⟨_, rfl, h out⟩
end Mine
end
end
section
open PySem PySem.W PyProof.Rows PySem.Spec PySem.Calls
set_option maxRecDepth 100000
set_option linter.unusedVariables false
noncomputable section
namespace Mine
/-! a generator expression handed to tuple: the code's own table may grow -/
theorem mapFields_tab (f : Array Value → Array Value) (ps : Array Value) : Obj.mapFields f (tabObj ps) = tabObj (f ps) := rfl
theorem gen_code {M : Model} {A : Around} {E : Value → Shared → Prop} {s : Shared} {env : Env} {pos : Pos} {qualname : PySem.Str} {scope : Scope} {Q : Value → Shared → Prop} (hc : env.code = .ref 396) (C : CodeHd s.heap 396 392) (t : TabIn s.heap)
    (hQ : ∀ code h' tk, Heap.ExtBut 392 s.heap h' → TabIn h' → s.heap.objs.size ≤ h'.objs.size → Q code { s with heap := h', toks := tk }) : wpAny M A (genexprCode env pos qualname scope) Q E s := by
  obtain ⟨ps, hop, htr⟩ := id t
  obtain ⟨o, vs, file, tf, flags, tg, inF, text, tt, ho, _, hd, _, h11, h2, h7, h9, h10, hne⟩ := id C
  unfold genexprCode codeAt
  rw [hc, if_neg (show ¬ ((Value.ref 396 == Value.none) = true) from Bool.false_ne_true)]
  refine wpAny_bind (wpAny_fieldsOf ho hd ?_)
  rw [h11]
  refine wpAny_bind (wpAny_fieldsOf hop rfl ?_)
  cases hnf : codeAmong pos ps.toList with
  | some cv => exact wpAny_pure (hQ cv s.heap s.toks (Heap.ExtBut.refl _ _) t (Nat.le_refl _))
  | none =>
    rw [h2, h7, h9, h10]
    refine wpAny_bind (wpAny_newCode fun c' P' h' tk hk hc' hP' hcode' hrec' => ?_)
    have hop' := hk _ _ hop
    refine wpAny_bind (wpAny_updateFieldsOfTheText hop' rfl ?_)
    have hget := Heap.get?_update_self (h := h') (fun o => Obj.mapFields (fun vs => if (codeAmong pos vs.toList).isSome = true then vs else
      vs ++ #[rawInt pos.line, rawInt pos.col, .ref c']) o) hop' rfl
    rw [mapFields_tab, hnf] at hget
    refine wpAny_bind (wpAny_fieldsOf hget rfl ?_)
    have hl : (ps ++ #[rawInt pos.line, rawInt pos.col, Value.ref c']).toList = ps.toList ++ [rawInt pos.line, rawInt pos.col, .ref c'] := by simp
    show wpAny _ _ (match codeAmong pos (ps ++ #[rawInt pos.line, rawInt pos.col, Value.ref c']).toList with | some c => pure c | none => _) _ _ _
    rw [hl, codeAmong_snoc _ htr hnf]
    refine wpAny_pure (hQ _ _ _ (fun b o' hb e => ((Heap.SameBut.update ..).extBut b o' hb (hk b o' e))) ⟨_, hget, by
      show TriplesOk (ps ++ #[rawInt pos.line, rawInt pos.col, Value.ref c']).toList
      rw [hl]; exact TriplesOk_snoc _ _ _ _ htr⟩ ?_)
    rw [Heap.size_after_update]
    exact Nat.le_trans hP' (Nat.le_of_lt hcode'.lt.2)
theorem k396 (w : World) : codeHdIn (KF w) 396 392 = true := by kernel_rfl
section
variable {c : Cx} {m : PySem.Str → Option Value} {news news' : Led} {s s' : Shared} {ρ ρ' : Rho}
theorem Gr0.regrown (O : c.Ok) (hcm : c.cmp = none) (hf : c.fix = false) {h₀ h h' : Heap} (G : Gr0 c m h₀ h) (tb' : TabIn h') (k : Heap.ExtBut 392 h h') :
    ∃ h₀', Trn c.fs h₀ h₀' ∧ Gr0 c m h₀' h' := by
  have n392 := tab_notin G.D G.tb
  have GF : Fr h₀ c.L h m := by have := G.F; rwa [Cx.fm_eq hcm] at this
  have nL : c.L ≠ 392 := fun q => by
    obtain ⟨ps, e, _⟩ := G.tb
    rw [← q, kts_self GF] at e; cases e
  obtain ⟨T₁, S₁⟩ := trn_at (h := h') (fs := c.fs) (g := h₀)
    (fun b hb => by
      obtain ⟨_, o, ho', _⟩ := G.B.frames.mem hb
      exact ⟨o, ho'⟩) n392 G.tb tb'
    (fun b o e _ n => k b o n (GF.keep b o e))
    (fun b o e hm => ⟨o.slots, k b o (fun q => n392 (q ▸ hm)) (GF.keep b o e)⟩)
  have B₃ : Below c.A₀ c.base c.outer (trnHeap h' c.fs h₀) := ⟨G.B.stack, fun b o e => T₁.other b o (G.B.stays b o e) (fun hm => by
    rw [(G.B.frames.mem hm).1] at e
    cases e) (fun q => by rw [q, O.bt] at e; cases e), G.B.frames.of_keeps fun b o e hm => by
    obtain ⟨sl', hs'⟩ := T₁.up e (fun q => by
      obtain ⟨ps, e2, _⟩ := G.tb
      rw [q, e2] at e; cases e; exact hm _ rfl)
    exact ⟨_, hs', rfl⟩⟩
  refine ⟨trnHeap h' c.fs h₀, T₁, ⟨(fun q => by rw [hf] at q; cases q), G.turn.trans T₁, B₃, ?_, O.XB.keeps B₃.stays, O.TB.keeps B₃.stays, KtsDicts.trn G.D T₁ G.tb, T₁.tab G.tb⟩⟩
  rw [Cx.fm_eq hcm]
  exact ⟨GF.ns.at' fun o e => k _ o nL e, S₁, by rw [T₁.size]; exact GF.above⟩
theorem News.regrown {h₀ h₀' h h' : Heap} (N : News h₀ c.L h news) (tb : TabIn h₀) (T : Trn c.fs h₀ h₀') (k : Heap.ExtBut 392 h h') : News h₀' c.L h' news := fun p hp => by
  have z := N p hp
  refine ⟨k _ _ (fun q => ?_) z.1, z.2.1, T.none_ _ z.2.2⟩
  obtain ⟨ps, e, _⟩ := tb
  rw [← q, z.2.2] at e; cases e
end
end Mine
end
end
section
open PySem PySem.W PyProof.Rows PySem.Spec PySem.Calls
set_option maxRecDepth 100000
set_option linter.unusedVariables false
noncomputable section
namespace Mine
/-- an item of the generator: the element makes some object, and nothing else turns -/
def GenElt (c : Cx) (scope : Scope) (x : PySem.Str) (elt : Expr) (y : PySem.Str) : Prop :=
  ∀ (mean : ExcName → Option Value) (mg mb : PySem.Str → Option Value) (g : Heap) (C : Addr) (code : Value) (A' : Around) (E' : Value → Shared → Prop) (s₂ : Shared) (m₂ : PySem.Str → Option Value) (t : Tok),
    (KF c.w).In g → TP mean mg mb g → A'.handled = none → A'.depth ≤ 960 → A'.units ≤ 9600 → Fr g C s₂.heap m₂ → m₂ x = some (.str y t) →
    wpAny (model P c.w) A' (eval elt (genEnv scope [] C code builtinsNs c.env)) (fun v s₃ => (∃ a, v = .ref a) ∧ Keeps s₂ s₃) E' s₂
theorem cst2 : cStatics = 2 := rfl
theorem ev_tuple_gen {c : Cx} {ρ : Rho} (O : c.Ok) (hcm : c.cmp = none) (hf : c.fix = false) {tp px pos pos' : Pos} {x : PySem.Str} {iter elt : Expr} {scope : Scope} {l : List PySem.Str} (hccd : c.ccd = .ref 396)
    (ht : EV c ρ (.Name "tuple" tp) (some (.val (.type "tuple")))) (hi : EV c ρ iter (some (dt (l.map .str)))) (hl : l.length ≤ 1000)
    (hco : scope.isCoroutine = false) (hclos : closureFor scope c.env = pure []) (hcell : ∀ y ∈ scope.names, y.2 ≠ .cell) (h0 : scope.names.lookup (".0" : PySem.Str) = some NameKind.local) (hx : scope.names.lookup x = some .local) (hkind : scope.kind = .function)
    (hs : ∀ x, genFold iter c.env x = pure x) (he : starEach [.GeneratorExp elt [⟨.Name x px, iter, [], 0⟩] scope pos] c.en = (false, eval (.GeneratorExp elt [⟨.Name x px, iter, [], 0⟩] scope pos) c.en) :: starEach [] c.en)
    (helt : ∀ y ∈ l, GenElt c scope x elt y) :
    EV c ρ (.Call (.Name "tuple" tp) [.GeneratorExp elt [⟨.Name x px, iter, [], 0⟩] scope pos] [] pos') (some .any) := by
  intro m news s Q E S hρ hQ
  refine wpAny_Call_Name_kw (ht m news s _ _ S hρ fun v n₁ s₁ hn₁ S₁ hv => ?_)
  cases hv
  have hkw : Kws c ρ [] [] := trivial
  have hplain : (backTo pos' (starEach [.GeneratorExp elt [⟨.Name x px, iter, [], 0⟩] scope pos] c.en)).any (·.1) = false := by rw [he]; rfl
  refine callWith_of (P := Keepable c (.type "tuple")) (by rw [hplain, (Kws.all hkw).2]; rfl) (fun h q => q) ?_
  refine evalArgs_kw2 (Kws.all hkw).1 (wpAny_items_cons ?_ he) he
  rw [Cx.en_eq hcm]
  have u1 := O.uni
  have d1 := O.dep
  refine wpAny_GeneratorExp_walksQD (A := c.A) O.hh hco hclos hcell h0 hx hkind (by show c.A₀.depth + 1 < 1000; omega) ?_ hs
  refine hi.env hcm m n₁ s₁ _ _ S₁ (hρ.mono hn₁) fun v n₂ s₂ hn₂ S₂ hv => ?_
  obtain ⟨h₀, G⟩ := S₂.gr
  cases hv with | dat hv => cases hv with | tuple hm hr =>
  rename_i ax vs nn
  have hst := DatAll.strs hr
  have hlen : vs.length = l.length := (lenOf hr).trans (by rw [List.length_map])
  refine iter_tuple (G.N.isTup hm) ?_
  have GF : Fr h₀ c.L s₂.heap m := by have := G.F; rwa [Cx.fm_eq hcm] at this
  -- the iterator
  generalize hI : s₂.heap.objs.size = I
  generalize hH1 : s₂.heap.push ({ cls := .type "tuple_iterator", data := .fields #[.ref ax, .int 0 0] } : Obj) = H1
  have k1 : ∀ b o, s₂.heap.get? b = some o → H1.get? b = some o := fun b o e => hH1 ▸ Heap.get?_push_of_some _ e
  have sz1 : H1.objs.size = I + 1 := by rw [← hH1, Heap.size_push, hI]
  have t2 : TabIn s₂.heap := G.tb.keeps GF.keep
  have t1 : TabIn H1 := t2.keeps k1
  have l392 : (392 : Addr) < I := by obtain ⟨ps, e, _⟩ := t2; rw [← hI]; exact Heap.lt_size e
  have axI : ax ≠ I := fun q => ne_size G.N _ hm (q.trans hI.symm)
  have ax392 : ax ≠ 392 := fun q => by
    obtain ⟨ps, e, _⟩ := t2
    have z := (G.N _ hm).1
    rw [show (ax, ({ cls := .type "tuple", data := .seq vs.toArray nn } : Obj)).1 = 392 from q, e] at z
    have z2 : Value.none = Value.type "tuple" := congrArg Obj.cls (Option.some.inj z)
    exact absurd z2 (by decide)
  have G1 : Gr0 c m h₀ H1 := G.toGr0.at (by rw [Cx.fm_eq hcm]; exact GF.keeps k1)
  refine ⟨(G.T.nolimit.keeps GF.keep).keeps k1, ?_⟩
  have G1F : Fr h₀ c.L H1 m := by have := G1.F; rwa [Cx.fm_eq hcm] at this
  refine gen_code (show c.env.code = .ref 396 from hccd) (codeHd_of_K (G1.X.keeps G1F.keep) (k396 _)) t1 fun code h₃ tk x₃ tb₃ sz₃ => ?_
  obtain ⟨h₀', T', G3⟩ := G1.regrown O hcm hf tb₃ x₃
  have G3F : Fr h₀' c.L h₃ m := by have := G3.F; rwa [Cx.fm_eq hcm] at this
  have N3 : News h₀' c.L h₃ n₂ := News.regrown (fun p hp => ⟨k1 _ _ (G.N p hp).1, (G.N p hp).2⟩) G.tb T' x₃
  have hI392 : I ≠ 392 := Nat.ne_of_gt l392
  have itI : h₃.get? I = some { cls := .type "tuple_iterator", data := .fields #[.ref ax, .int 0 0] } := x₃ _ _ hI392 (by rw [← hH1, ← hI]; exact Heap.get?_push_size _ rfl)
  obtain ⟨bm, ob, b1, b2, b3, b4, b5, b6⟩ := G3.T.bmain
  have eg : c.env.globals = mainGlobals := by rw [← Cx.en_eq hcm]; exact O.eg
  refine wpAny_builtinsFor (by rw [eg]; exact G3.T.g.keeps G3F.keep) b1 b2 (G3F.keep _ _ b3) b4 b5 b6 ?_
  have hIh₀' : h₀'.get? I = none := T'.none_ _ (by
    cases q : h₀.get? I with
    | none => rfl
    | some o => exact absurd (Heap.lt_size (GF.keep _ _ q)) (by rw [hI]; exact Nat.lt_irrefl _))
  have abv : h₀'.objs.size ≤ h₃.objs.size := Nat.le_trans G3F.above (Nat.le_of_lt G3F.ns.lt)
  refine ⟨I, [I, ax], [I], vs.toArray.size, fun i v => vs.toArray[i]? = some v, fun i h => h.IsTupleIter I ax i ∧ h.IsTuple ax vs.toArray, fun _ => true, fun _ y => ∃ a, y = .ref a, rfl, fun A' hA => Walks.tuple hA I ax axI vs.toArray,
    ⟨⟨_, itI, rfl, rfl⟩, ⟨_, (N3 _ hm).1, rfl, nn, rfl⟩⟩, ?_, (G3.T.nolimit.keeps G3F.keep), ?_, ?_, ?_⟩
  · intro b hb
    rcases List.mem_cons.mp hb with rfl | hb
    · exact Heap.lt_size itI
    · rw [List.mem_singleton.mp hb]; exact Heap.lt_size (N3 _ hm).1
  · intro hb
    rw [List.mem_singleton] at hb
    rw [← hb, cst2] at l392
    exact absurd l392 (by decide)
  · intro href hk
    refine ⟨fun A' E' i v t m₂ hA hD hU hP hns hm₂ hkp => ?_, fun A' E' i v t m₂ hA hD hU hP _ hns hm₂ hkp => ?_⟩
    · exact wpAny_pure ⟨rfl, t.heap, t.toks, rfl, fun _ _ e => e⟩
    · have hv : ∃ y tk', v = .str y tk' ∧ y ∈ l := by
        have q' : vs[i]? = some v := by rw [← List.getElem?_toArray]; exact hP
        obtain ⟨hlt, e⟩ := List.getElem?_eq_some_iff.mp q'
        have hl' : i < l.length := by omega
        obtain ⟨v', a, b⟩ := DatAll.at hr (j := i) (d := .str l[i]) (by rw [List.getElem?_map, List.getElem?_eq_getElem hl']; rfl)
        rw [q'] at a; cases a
        cases b with | str _ tk' => exact ⟨_, tk', rfl, List.getElem_mem hl'⟩
      obtain ⟨y, tk', rfl, hy⟩ := hv
      refine helt y hy c.mean c.mg c.mb h₀' _ code A' E' t m₂ tk' G3.X G3.T hA (Nat.le_trans hD (by show c.A₀.depth + 1 + 1 ≤ 960; omega)) (Nat.le_trans hU (by show c.A₀.units + 3 + 8 ≤ 9600; omega)) ⟨hns, fun b o e => ?_, abv⟩ hm₂
      have e3 := G3F.keep b o e
      refine hkp b (List.mem_range.mpr (Heap.lt_size e3)) (fun q => ?_) o (hk b o e3)
      rw [List.mem_singleton.mp q, hIh₀'] at e; cases e
  · intro a h₅ tk₅ gs hgs hlt hsz hk W hst0
    refine wpAny_items_nil (kwAll_nil ⟨keep_plain (fun _ q => by cases q), ?_⟩)
    have hpl : (passing (fun _ => true) vs.toArray.size 0).length ≤ 1000 := by
      unfold passing
      refine Nat.le_trans (List.length_filter_le _ _) ?_
      rw [List.drop_zero, List.length_range, List.size_toArray]; omega
    refine call_tuple_gen (A := c.A) (hsz := Nat.le_trans hpl (by rw [sizeLine_eq]; decide)) W.in4_3 (fun i s' st => st.1.typeIs) hst0 (fun b hb => ?_) List.mem_cons_self (fun s' acc hm' hacc => ?_)
    · show b < h₅.objs.size
      rw [hsz]
      rcases List.mem_cons.mp hb with rfl | hb
      · exact Nat.lt_succ_self _
      · rcases List.mem_cons.mp hb with rfl | hb
        · exact Nat.lt_succ_of_lt hlt
        · exact Nat.lt_succ_of_lt (Nat.lt_trans (List.mem_range.mp hb) hlt)
    · have kk : ∀ b o, b ≠ h₃.objs.size → b ≠ I → h₃.get? b = some o → (s'.heap.push ({ cls := .type "tuple", data := .seq acc } : Obj)).get? b = some o := fun b o n1 n2 e =>
        Heap.get?_push_of_some _ (hm'.heap b o (fun q => by
          rcases List.mem_cons.mp q with q | q
          · exact n1 q
          · exact n2 (List.mem_singleton.mp q)) (hk b o e))
      have L1 : c.L < I := by rw [← hI]; exact GF.ns.lt
      have L3 : c.L < h₃.objs.size := G3F.ns.lt
      have F' : Fr h₀' c.L (s'.heap.push ({ cls := .type "tuple", data := .seq acc } : Obj)) m :=
        ⟨G3F.ns.at' fun o e => kk _ o (Nat.ne_of_lt L3) (Nat.ne_of_lt L1) e, fun b o e => kk b o (Nat.ne_of_lt (Heap.lt_size (G3F.keep b o e))) (fun q => by rw [q, hIh₀'] at e; cases e) (G3F.keep b o e), G3F.above⟩
      refine hQ.ok (news' := n₂) (fun _ hp => hn₂ (hn₁ hp)) ⟨hm'.os.trans S₂.os, AllBare.moved (S₂.ga.push hgs) hm'.gens, h₀', G3.at (by rw [Cx.fm_eq hcm]; exact F'), fun p hp => ?_, .none hcm⟩ .any
      have z := N3 p hp
      exact ⟨kk _ _ (Nat.ne_of_lt (Heap.lt_size z.1)) (fun q => ne_size G.N p hp (q.trans hI.symm)) z.1, z.2⟩
end Mine
end
end
section
open PySem PySem.W PyProof.Rows PySem.Spec PySem.Calls
set_option maxRecDepth 100000
set_option linter.unusedVariables false
noncomputable section
namespace Mine
/-! names without a frame of our own -/
section
variable {w : World} {A : Around} {E : Value → Shared → Prop} {s : Shared} {env : Env} {g : Heap} {L : Addr} {m mg mb : PySem.Str → Option Value} {mean : ExcName → Option Value} {Q : Value → Shared → Prop}
theorem gn_local (ek : env.scope.kind = .function) {x : PySem.Str} {pos : Pos} {v : Value} (hn : s.heap.Ns env.locals m) (hv : m x = some v) (hl : env.kindOf x = some .local) (hx : (x == ("__debug__" : PySem.Str)) = false) (h : Q v s) : wpAny (model P w) A (eval (.Name x pos) env) Q E s :=
  wpAny_Name (wpAny_loadName_local ek hl hn hv h) hx
theorem gn_K (ek : env.scope.kind = .function) (eg : env.globals = mainGlobals) {x : PySem.Str} {pos : Pos} {v : Value} (X : (KF w).In g) (T : TP mean mg mb g) (k : ∀ b o, g.get? b = some o → s.heap.get? b = some o)
    (e : nsIn (KF w) mainGlobals x = some (some v)) (hl : env.kindOf x = some .globalImplicit) (hx : (x == ("__debug__" : PySem.Str)) = false) (h : Q v s) : wpAny (model P w) A (eval (.Name x pos) env) Q E s :=
  Calls.Name_function_global ek hl (Calls.loadGlobal_global (by rw [eg]; exact T.g.keeps k) (mg_of X T.g e) h) hx
theorem gn_B (ek : env.scope.kind = .function) (eg : env.globals = mainGlobals) (eb : env.builtins = builtinsNs) {x : PySem.Str} {pos : Pos} {v : Value} (X : (KF w).In g) (T : TP mean mg mb g) (k : ∀ b o, g.get? b = some o → s.heap.get? b = some o)
    (e : nsIn (KF w) mainGlobals x = some none) (hv : bootBuiltins x = some v) (hn : x ≠ "__name__") (hl : env.kindOf x = some .globalImplicit) (hx : (x == ("__debug__" : PySem.Str)) = false) (h : Q v s) : wpAny (model P w) A (eval (.Name x pos) env) Q E s :=
  Calls.Name_function_global ek hl (Calls.loadGlobal_builtin (by rw [eg]; exact T.g.keeps k) (mg_none_of X T.g e) (by rw [eb]; exact T.b.keeps k) ((T.builtins x hn).trans hv) h) hx
/-- a class call with one argument: a fresh object, nothing else turns -/
theorem gen_cls {C fI : Addr} {v : Value} {name qual : PySem.Str} {params : Arguments} {body : List Stmt} {scope : Scope} {dV kV doc pm cdv ct oc : Value} {an od : Option Addr} {osl : Array (Option Value)}
    (hm : makesIn (KF w) C = true) (hi : findIn (KF w) (.ref C) "__init__" = some (some (.ref fI))) (hf : isFn (KF w) (.ref fI) = true)
    (ho : (KF w).lookup fI = some ⟨oc, od, .func (fnOf name qual params body scope dV kV doc pm an cdv ct), osl⟩) (hcd : codeIn (KF w) cdv qual = true)
    (X : (KF w).In g) (T : TP mean mg mb g) (k : ∀ b o, g.get? b = some o → s.heap.get? b = some o) (hh : A.handled = none) (hdep : A.depth ≤ 970)
    (hbind : ∀ x (s' : Shared), BindsTo s' (fnOf name qual params body scope dV kV doc pm an cdv ct) ⟨[.ref x, v], []⟩ [("self", .ref x), ("value", v)])
    (hloc : ∀ y ∈ [(("self" : PySem.Str), Value.none), ("value", Value.none)], scope.names.lookup y.1 = some .local)
    (hbody : ∀ (A' : Around) x dx L h₁ tk, A'.handled = none → (KF w).In s.heap → TP mean mg mb s.heap → Fr s.heap L h₁ (fun y => [(("self" : PySem.Str), Value.ref x), ("value", v)].reverse.lookup y) → News s.heap L h₁ [(x, instObj C dx), (dx, dictOf [] 0)] → dx ≠ x →
      wpAny (model P w) A' (execs body (envOf qual scope L fI cdv)) (fun fl s' => fl = .next ∧ ∃ h' tk', s' = { s with heap := h', toks := tk' } ∧ ∃ m', Fr s.heap L h' m') (fun _ _ => False) { s with heap := h₁, toks := tk })
    (hk : scope.kind = .function) (hco : scope.isCoroutine = false) (hgen : scope.isGenerator = false) (hcell : ∀ x ∈ scope.names, x.2 ≠ .cell) :
    wpAny (model P w) A (call (.ref C) [v]) (fun y s' => (∃ a, y = .ref a) ∧ Keeps s s') E s := by
  have X₀ := X.keeps k
  refine wpAny_call ?_
  obtain ⟨hh0, gg, d, t, os⟩ := s
  refine make_core (makes_of X₀ hm) (looks_findIn X₀ hi) (fun self => bind_fn X₀ self (beq_iff_eq.mp hf)) (.inl rfl) ?_
  have k2 : ∀ b o, hh0.get? b = some o → ((hh0.push emptyDict).push (instObj C hh0.objs.size)).get? b = some o := fun b o e => Heap.get?_push_of_some _ (Heap.get?_push_of_some _ e)
  have X2 := X₀.keeps k2
  have T0 : TP mean mg mb hh0 := T.keeps k
  generalize hA : Around.under A (Code.builtin "type.__call__" { pos := Value.ref C :: [v], kw := [] }) = A2
  have nh : A2.handled = none := by rw [← hA]; exact hh
  have nd : A2.depth = A.depth + 1 := by rw [← hA]; rfl
  refine codeAny_call_def (s := ⟨(hh0.push emptyDict).push (instObj C hh0.objs.size), gg, d, t, os⟩) (fd := fnOf name qual params body scope dV kV doc pm an cdv ct) (body := body) (binds := [("self", .ref (hh0.objs.size + 1)), ("value", v)]) (by rw [nd]; show A.depth + 1 < 1000; omega) (X2 _ _ ho) rfl ((T0.nolimit).keeps k2) (codeRec_of X2 hcd) rfl (hbind _ _) hcell
    (fun y hy => by
      rcases List.mem_cons.mp hy with rfl | hy
      · exact hloc ("self", .none) (List.mem_cons_self ..)
      · rcases List.mem_cons.mp hy with rfl | hy
        · exact hloc ("value", .none) (List.mem_cons_of_mem _ (List.mem_cons_self ..))
        · cases hy) (fun h₁ hns hk₁ => ?_) hco hgen hk
  have sz : ((hh0.push emptyDict).push (instObj C hh0.objs.size)).objs.size = hh0.objs.size + 2 := by rw [Heap.size_push, Heap.size_push]
  have hz : ∀ b, hh0.objs.size ≤ b → hh0.get? b = none := fun b hb => Heap.get?_none_of_le hb
  have F1 : Fr hh0 ((hh0.push emptyDict).push (instObj C hh0.objs.size)).objs.size h₁ (fun y => [(("self" : PySem.Str), Value.ref (hh0.objs.size + 1)), ("value", v)].reverse.lookup y) := ⟨hns, fun b o e => hk₁ b o (k2 b o e), by rw [sz]; omega⟩
  have N1 : News hh0 ((hh0.push emptyDict).push (instObj C hh0.objs.size)).objs.size h₁ [(hh0.objs.size + 1, instObj C hh0.objs.size), (hh0.objs.size, dictOf [] 0)] := fun p hp => by
    rcases List.mem_cons.mp hp with rfl | hp
    · exact ⟨hk₁ _ _ (by
        have := Heap.get?_push_size (hh0.push emptyDict) (show (instObj C hh0.objs.size).isFreed = false from rfl)
        rwa [Heap.size_push] at this), by rw [sz]; show hh0.objs.size + 1 ≠ _; omega, hz _ (Nat.le_succ _)⟩
    · rcases List.mem_cons.mp hp with rfl | hp
      · exact ⟨hk₁ _ _ (Heap.get?_push_of_some _ (Heap.get?_push_size _ rfl)), by rw [sz]; show hh0.objs.size ≠ _; omega, hz _ (Nat.le_refl _)⟩
      · cases hp
  refine wpAny_mono (hbody (A2.deeper (envOf qual scope ((hh0.push emptyDict).push (instObj C hh0.objs.size)).objs.size fI cdv)) (hh0.objs.size + 1) hh0.objs.size _ h₁ _ nh X₀ T0 F1 N1 (Nat.ne_of_lt (Nat.lt_succ_self _))) (fun fl s' hq => ?_) (fun _ _ q => q.elim)
  obtain ⟨rfl, h', tk', rfl, m', F'⟩ := hq
  exact ⟨rfl, ⟨_, rfl⟩, h', tk', rfl, F'.keep⟩
end
end Mine
end
end
section
open PySem PySem.W PyProof.Rows PySem.Spec PySem.Calls
set_option maxRecDepth 100000
set_option linter.unusedVariables false
noncomputable section
namespace Mine
/-! the two classes of identifiers -/
section
variable {w : World} {A : Around} {E : Value → Shared → Prop} {s : Shared} {g : Heap} {mg mb : PySem.Str → Option Value} {mean : ExcName → Option Value}
theorem gm_encode_get {x : PySem.Str} {t : Tok} {pl : Sem Bool} {Q : Value × List Value → Shared → Prop} (h : Q (.builtin "str.encode", [.str x t]) s) : wpAny (model P w) A (getMethod (.str x t) "encode" pl) Q E s := by
  with_reducible exact PySem.GM.of (.str x t) (typeIs_str _ _ _) F.slot_str_encode F.type_str_encode PySem.GM.noRef h
/-- self.value = v, behind which nothing is left -/
theorem gen_store {A' : Around} {C : Addr} {x dx L : Addr} {h₁ : Heap} {tk : Nat} {v : Value} {m : PySem.Str → Option Value} {E : Value → Shared → Prop} {Q : Unit → Shared → Prop} (X : (KF w).In s.heap) (F : Fr s.heap L h₁ m) (N : News s.heap L h₁ [(x, instObj C dx), (dx, dictOf [] 0)]) (hne : dx ≠ x)
    (hs : findIn (KF w) (.ref C) "__setattr__" = some (some (.builtin "object.__setattr__"))) (hp : plainOver (KF w) C = true) (ht : takerIn (KF w) C "value" = some none) (hd : hasDictIn (KF w) C = true)
    (hQ : ∀ h' tk', (∃ m', Fr s.heap L h' m') → Q () { s with heap := h', toks := tk' }) : wpAny (model P w) A' (setAttr (.ref x) "value" v) Q E { s with heap := h₁, toks := tk } :=
  set_dict (s := { s with heap := h₁, toks := tk }) F X N (InstAt.of_news N (List.mem_cons_self ..) (List.mem_cons_of_mem _ (List.mem_cons_self ..))) rfl hs hp ht hd rfl rfl (.tail (Ne.symm hne) (.head (fun p hp => by cases hp))) (by show 1 ≤ 1000; decide) fun h' F' N' => hQ _ _ ⟨_, F'⟩
theorem gen_num {y : PySem.Str} {t : Tok} {n : Int} (hy : PySem.intText? y = some n) (hl : y.length ≤ 640) (X : (KF w).In g) (T : TP mean mg mb g) (k : ∀ b o, g.get? b = some o → s.heap.get? b = some o) (hh : A.handled = none) (hdep : A.depth ≤ 970) :
    wpAny (model P w) A (call (.ref 236) [.str y t]) (fun y s' => (∃ a, y = .ref a) ∧ Keeps s s') E s := by
  refine gen_cls (fI := 219) (by kernel_rfl) (by kernel_rfl) (by kernel_rfl) (by with_unfolding_all rfl) (by kernel_rfl) X T k hh hdep (fun x s' => BindsTo.of_eq rfl) (by decide +kernel) (fun A' x dx L h₁ tk hA X T F N hne => ?_) rfl rfl rfl (by simp)
  refine wpAny_execs_cons ?_
  refine plainObj_wpAny_Assign_Attribute ?_ (by with_unfolding_all rfl)
  refine wpAny_Call_Name_kw (gn_B (mg := mg) (mb := mb) (mean := mean) (v := .type "int") rfl rfl rfl X T F.keep (k_int _) Boot.int n_int (by kernel_rfl) (by kernel_rfl) ?_)
  refine callWith_of (P := fun _ => True) (by with_unfolding_all rfl) (fun h _ => ⟨.machine, .inr (.inl rfl), Looks.of_pure rfl⟩) ?_
  refine evalArgs_kw2 (by with_unfolding_all rfl) (wpAny_items_cons ?_ rfl) rfl
  refine gn_local (v := .str y t) rfl F.ns (by with_unfolding_all rfl) (by kernel_rfl) (by kernel_rfl) (wpAny_items_nil (kwAll_nil ⟨trivial, ?_⟩))
  refine KIN.call_text hy hl ?_
  refine gn_local (v := .ref x) rfl F.ns (by with_unfolding_all rfl) (by kernel_rfl) (by kernel_rfl) ?_
  exact gen_store (s := s) (C := 236) X F N hne (by kernel_rfl) (by kernel_rfl) (by kernel_rfl) (by kernel_rfl) fun h' tk' F' => wpAny_execs_nil ⟨rfl, h', tk', rfl, F'⟩
theorem gen_alpha {y : PySem.Str} {t : Tok} (hA : AsciiS y) (hl : y.length ≤ 1000) (X : (KF w).In g) (T : TP mean mg mb g) (k : ∀ b o, g.get? b = some o → s.heap.get? b = some o) (hh : A.handled = none) (hdep : A.depth ≤ 970) :
    wpAny (model P w) A (call (.ref 272) [.str y t]) (fun y s' => (∃ a, y = .ref a) ∧ Keeps s s') E s := by
  refine gen_cls (fI := 255) (by kernel_rfl) (by kernel_rfl) (by kernel_rfl) (by with_unfolding_all rfl) (by kernel_rfl) X T k hh hdep (fun x s' => BindsTo.of_eq rfl) (by decide +kernel) (fun A' x dx L h₁ tk hA' X T F N hne => ?_) rfl rfl rfl (by simp)
  refine wpAny_execs_cons ?_
  refine plainObj_wpAny_Assign_Attribute ?_ (by with_unfolding_all rfl)
  refine methodCall_KW ?_ rfl
  refine gn_local (v := .str y t) rfl F.ns (by with_unfolding_all rfl) (by kernel_rfl) (by kernel_rfl) (gm_encode_get ?_)
  refine callWith_of (P := fun _ => True) (by with_unfolding_all rfl) (fun h _ => ⟨.machine, .inr (.inl rfl), Looks.of_pure rfl⟩) ?_
  refine evalArgs_kw2 (by with_unfolding_all rfl) (wpAny_items_cons (wpAny_Constant_str (wpAny_items_nil (kwAll_nil ⟨trivial, ?_⟩))) rfl) rfl
  refine call_encode hA hl fun b => ?_
  refine gn_local (v := .ref x) rfl F.ns (by with_unfolding_all rfl) (by kernel_rfl) (by kernel_rfl) ?_
  exact gen_store (s := s) (C := 272) X F N hne (by kernel_rfl) (by kernel_rfl) (by kernel_rfl) (by kernel_rfl) fun h' tk' F' => wpAny_execs_nil ⟨rfl, h', tk', rfl, F'⟩
end
/-- an identifier that both classes take -/
def IdOk (y : PySem.Str) : Prop := AsciiS y ∧ y.length ≤ 640 ∧ (Txt.isdigit y = true → (PySem.intText? y).isSome = true)
theorem gen_elt {c : Cx} {scope : Scope} {p1 p2 p3 p4 p5 p6 p7 p8 p9 p10 : Pos} {y : PySem.Str} (hy : IdOk y) (hk : scope.kind = .function) (eg : c.env.globals = mainGlobals) (h1 : scope.names.lookup ("part" : PySem.Str) = some .local) (h2 : scope.names.lookup ("NumericIdentifier" : PySem.Str) = some .globalImplicit) (h3 : scope.names.lookup ("AlphaIdentifier" : PySem.Str) = some .globalImplicit)
    (he : ∀ C code, ∃ pl : Sem Bool, eval (.Call (.Attribute (.Name "part" p1) "isdigit" p2) [] [] p3) (genEnv scope [] C code builtinsNs c.env) = (do
      let ov ← eval (.Name "part" p1) (genEnv scope [] C code builtinsNs c.env)
      standAt p2.atName
      let (f, first) ← holding [ov] (getMethod ov "isdigit" pl)
      callWith p3 f first (backTo p3 (starEach [] (genEnv scope [] C code builtinsNs c.env))) (backToKw p3 (keywordEach [] (genEnv scope [] C code builtinsNs c.env))))) :
    GenElt c scope "part" (.IfExp (.Call (.Attribute (.Name "part" p1) "isdigit" p2) [] [] p3) (.Call (.Name "NumericIdentifier" p4) [.Name "part" p5] [] p6) (.Call (.Name "AlphaIdentifier" p7) [.Name "part" p8] [] p9) p10) y := by
  intro mean mg mb g C code A' E' s₂ m₂ t X T hh hD hU F hm
  obtain ⟨hA, hl, hn⟩ := hy
  obtain ⟨pl, he⟩ := he C code
  refine wpAny_IfExp (wpAny_isTrue_value (methodCall_KW ?_ he) rfl)
  refine gn_local (v := .str y t) hk F.ns hm h1 (by kernel_rfl) (PySem.GM.isdigit ?_)
  refine callWith_of (P := fun _ => True) (by with_unfolding_all rfl) (fun h _ => ⟨.machine, .inr (.inl rfl), Looks.of_pure rfl⟩) ?_
  refine evalArgs_kw2_nil (by with_unfolding_all rfl) (kwAll_nil ⟨trivial, ?_⟩)
  refine SC.isdigit (wpAny_truthy_bool ?_)
  cases hb : Txt.isdigit y with
  | true =>
    obtain ⟨n, hn⟩ := Option.isSome_iff_exists.mp (hn hb)
    refine wpAny_Call_Name_kw (gn_K (env := genEnv scope [] C code builtinsNs c.env) (mg := mg) (mb := mb) (mean := mean) (v := .ref 236) hk eg X T F.keep (by kernel_rfl) h2 (by kernel_rfl) ?_)
    refine callWith_of (P := fun h => (KF c.w).In h) (by with_unfolding_all rfl) (fun h q => keeps_K (by kernel_rfl) _ q) ?_
    refine evalArgs_kw2 (by with_unfolding_all rfl) (wpAny_items_cons ?_ rfl) rfl
    refine gn_local (v := .str y t) hk F.ns hm h1 (by kernel_rfl) (wpAny_items_nil (kwAll_nil ⟨X.keeps F.keep, ?_⟩))
    exact gen_num hn hl X T F.keep hh (by omega)
  | false =>
    refine wpAny_Call_Name_kw (gn_K (env := genEnv scope [] C code builtinsNs c.env) (mg := mg) (mb := mb) (mean := mean) (v := .ref 272) hk eg X T F.keep (by kernel_rfl) h3 (by kernel_rfl) ?_)
    refine callWith_of (P := fun h => (KF c.w).In h) (by with_unfolding_all rfl) (fun h q => keeps_K (by kernel_rfl) _ q) ?_
    refine evalArgs_kw2 (by with_unfolding_all rfl) (wpAny_items_cons ?_ rfl) rfl
    refine gn_local (v := .str y t) hk F.ns hm h1 (by kernel_rfl) (wpAny_items_nil (kwAll_nil ⟨X.keeps F.keep, ?_⟩))
    exact gen_alpha hA (by omega) X T F.keep hh (by omega)
end Mine
end
end
section
open PySem PySem.W PyProof.Rows PySem.Spec PySem.Calls
set_option maxRecDepth 100000
set_option linter.unusedVariables false
noncomputable section
namespace Mine
local macro_rules | `(tactic| walk_at "lk") => `(tactic| first | with_unfolding_all rfl | assumption | (refine (upd_ne (by decide +kernel)).trans ?_; walk_at "lk"))
local macro_rules | `(tactic| walk_at "leaf") => `(tactic| first | exact ev_str | exact ev_int | exact ev_none | exact ev_bool | exact ev_local (by assumption) (by walk_at "lk") (by kernel_rfl) (by kernel_rfl) | exact ev_B (by assumption) (k_int _) Boot.int n_int (by kernel_rfl) (by kernel_rfl) | exact ev_B (by assumption) (k_tuple _) Boot.tuple n_tuple (by kernel_rfl) (by kernel_rfl))
/-- a prerelease, a build: none, or names -/
inductive IdsD : Dat → List PySem.Str → Prop
  | none : IdsD .none []
  | tup {l} : IdsD (.tuple (l.map .str)) l
theorem IdsD.tn {d : Dat} {l : List PySem.Str} (h : IdsD d l) : isTN d = true := by cases h <;> rfl
theorem IdsD.top {d : Dat} {l : List PySem.Str} (h : IdsD d l) (hl : l.length ≤ 1000) : topOk d := by
  cases h with
  | none => trivial
  | tup => show (l.map Dat.str).length < _; rw [List.length_map]; omega
theorem IdsD.or {d : Dat} {l : List PySem.Str} (h : IdsD d l) : orT d = .tuple (l.map .str) := by cases h <;> rfl
theorem IdsD.tru {d : Dat} {l : List PySem.Str} (h : IdsD d l) : truD d = !l.isEmpty := by
  cases h with
  | none => rfl
  | tup => cases l <;> rfl
theorem ev_orL {c : Cx} {ρ : Rho} {x : Expr} {pos p : Pos} {k : Nat} {d : Dat} {l : List PySem.Str} (h : IdsD d l) (hl : l.length ≤ 1000) (e : EV c ρ x (some (.dat d))) : EV c ρ (.BoolOp .Or [x, .Tuple [] k p] pos) (some (dt (l.map .str))) := by
  have := ev_orT (pos := pos) (p := p) (k := k) h.tn (h.top hl) e
  rw [h.or] at this; exact this
theorem k_max (w : World) : nsIn (KF w) mainGlobals "MaxIdentifier" = some (some (.ref 110)) := by kernel_rfl
set_option maxHeartbeats 2000000 in
theorem fn_build (w : World) {fs : List (PySem.Str × Dat)} {no : List PySem.Str} {wb : Bool} {ma mi pa pre bu : Dat} {lp lb : List PySem.Str} (f1 : fs.lookup ("major" : PySem.Str) = some ma) (f2 : fs.lookup ("minor" : PySem.Str) = some mi) (f3 : fs.lookup ("patch" : PySem.Str) = some pa) (f4 : fs.lookup ("prerelease" : PySem.Str) = some pre) (f5 : fs.lookup ("build" : PySem.Str) = some bu)
    (h4 : IdsD pre lp) (h5 : IdsD bu lb) (o4 : ∀ y ∈ lp, IdOk y) (o5 : ∀ y ∈ lb, IdOk y) (l4 : lp.length ≤ 1000) (l5 : lb.length ≤ 1000) :
    FN w 1 true 397 [.inst 457 fs no] [("with_build", db wb)] (some .any) := by
  refine fn_of (f := 397) (ho := by with_unfolding_all rfl) (by kernel_rfl) (o := .ret .any) (binds_ok [("self", .inst 457 fs no), ("with_build", db wb)] (fun news vs kvs s X a b => ?_) rfl) rfl (fun q => by cases q) (fun mean mg mb base A₀ outer L g₀ os O => ?_) rfl rfl rfl (by simp)
  · obtain ⟨v, rfl, a1⟩ := dall1 a
    obtain ⟨v', rfl, a2⟩ := kall1 b
    exact ⟨[("self", v), ("with_build", v')], binds_K X rfl (by with_unfolding_all rfl) rfl rfl rfl, rfl, a1, rfl, a2, trivial⟩
  · refine ex_branch (fun ρ' => ρ' "self" = some (.inst 457 fs no) ∧ ρ' "with_build" = some (db wb) ∧ ρ' "prerelease_key" = some .any) ?_ ?_
    · cases hb : lp.isEmpty with
      | false =>
        have hp : pre = .tuple (lp.map .str) := by
          cases h4 with
          | none => cases hb
          | tup => rfl
        subst hp
        refine ⟨_, ex_if (et_value (ev_attr (by walk_at "leaf") (ga_fld f4 (by kernel_rfl) (by kernel_rfl))) (ob_dat (h4.top l4))) (fun _ => ex_one (ex_assign O (ev_tuple_gen O rfl rfl rfl (by walk_at "leaf") (ev_attr (by walk_at "leaf") (ga_fld f4 (by kernel_rfl) (by kernel_rfl))) l4 rfl (by kernel_rfl) (by simp) (by kernel_rfl) (by kernel_rfl) rfl (fun _ => rfl) rfl (fun y hy => gen_elt (o4 y hy) rfl rfl (by kernel_rfl) (by kernel_rfl) (by kernel_rfl) (fun _ _ => ⟨_, rfl⟩))) (by kernel_rfl))) (fun q => ?_), by walk_at "lk", by walk_at "lk", by walk_at "lk"⟩
        rw [h4.tru, hb] at q; cases q
      | true =>
        refine ⟨_, ex_if (et_value (ev_attr (by walk_at "leaf") (ga_fld f4 (by kernel_rfl) (by kernel_rfl))) (ob_dat (h4.top l4))) (fun q => ?_) (fun _ => ex_one (ex_assign O (ev_tuple_any (l := [.any]) (evs_cons (ev_call (ev_K O (k_max _) (by kernel_rfl) (by kernel_rfl)) evs_nil kws_nil fun _ => callable_cn O (cn_max (rk := 0)) (Nat.zero_lt_succ 0) (fun q => by cases q) (by kernel_rfl)) evs_nil) (by decide)) (by kernel_rfl))), by walk_at "lk", by walk_at "lk", by walk_at "lk"⟩
        rw [h4.tru, hb] at q; cases q
    rintro ρ ⟨g1, g2, g3⟩
    cases wb with
    | false =>
      exact ex_ret (ex_if (et_not (et_value (by walk_at "leaf") (ob_dat (x := .bool false) trivial))) (fun _ => ex_ret (ex_return (ev_tuple_any (l := [.dat ma, .dat mi, .dat pa, .any]) (hl := by show 4 ≤ 1000; decide) (evs_cons (ev_attr (by walk_at "leaf") (ga_fld f1 (by kernel_rfl) (by kernel_rfl))) (evs_cons (ev_attr (by walk_at "leaf") (ga_fld f2 (by kernel_rfl) (by kernel_rfl))) (evs_cons (ev_attr (by walk_at "leaf") (ga_fld f3 (by kernel_rfl) (by kernel_rfl))) (evs_cons (by walk_at "leaf") evs_nil))))))) (fun q => by cases q))
    | true =>
      refine ex_cons (ex_if (et_not (et_value (by walk_at "leaf") (ob_dat (x := .bool true) trivial))) (fun q => by cases q) (fun _ => ex_nil)) ?_
      refine ex_cons (ex_assign O (ev_tuple_gen (l := lb) O rfl rfl rfl (by walk_at "leaf") (ev_orL h5 l5 (ev_attr (by walk_at "leaf") (ga_fld f5 (by kernel_rfl) (by kernel_rfl)))) l5 rfl (by kernel_rfl) (by simp) (by kernel_rfl) (by kernel_rfl) rfl (fun _ => rfl) rfl (fun y hy => gen_elt (o5 y hy) rfl rfl (by kernel_rfl) (by kernel_rfl) (by kernel_rfl) (fun _ _ => ⟨_, rfl⟩))) (by kernel_rfl)) ?_
      exact ex_ret (ex_return (ev_tuple_any (l := [.dat ma, .dat mi, .dat pa, .any, .any]) (hl := by show 5 ≤ 1000; decide) (evs_cons (ev_attr (by walk_at "leaf") (ga_fld f1 (by kernel_rfl) (by kernel_rfl))) (evs_cons (ev_attr (by walk_at "leaf") (ga_fld f2 (by kernel_rfl) (by kernel_rfl))) (evs_cons (ev_attr (by walk_at "leaf") (ga_fld f3 (by kernel_rfl) (by kernel_rfl))) (evs_cons (by walk_at "leaf") (evs_cons (by walk_at "leaf") evs_nil)))))))
end Mine
end
end
section
open PySem PySem.W PyProof.Rows PySem.Spec PySem.Calls
set_option maxRecDepth 100000
set_option linter.unusedVariables false
noncomputable section
namespace Mine
local macro_rules | `(tactic| walk_at "lk") => `(tactic| first | with_unfolding_all rfl | assumption | (refine (upd_ne (by decide +kernel)).trans ?_; walk_at "lk"))
local macro_rules | `(tactic| walk_at "leaf") => `(tactic| first | exact ev_str | exact ev_int | exact ev_none | exact ev_bool | exact ev_local (by assumption) (by walk_at "lk") (by kernel_rfl) (by kernel_rfl))
local macro_rules | `(tactic| walk_at "fld") => `(tactic| exact ev_attr (by walk_at "leaf") (ga_fld rfl (by kernel_rfl) (by kernel_rfl)))
/-- a number of a version: none, or an int that is not too large -/
def NumD (d : Dat) : Prop := d = .none ∨ ∃ n : Int, d = .int n ∧ 0 ≤ n ∧ n < 10 ^ 400
def tS (n : Int) : PySem.Str := PySem.Str.ofString (toString n)
def dotS (v : PySem.Str) : Dat → PySem.Str
  | .int n => v ++ PySem.Str.ofString "." ++ tS n
  | _ => v
def joinD (l : List PySem.Str) : PySem.Str := Txt.join (PySem.Str.ofString ".") l
def isTup : Dat → Bool
  | .tuple _ => true
  | _ => false
def preS (v : PySem.Str) (pre bu : Dat) (lp : List PySem.Str) : PySem.Str := if (!lp.isEmpty || (isTup pre && isDN bu)) = true then v ++ PySem.Str.ofString "-" ++ joinD lp else v
def buS (v : PySem.Str) (bu : Dat) (lb : List PySem.Str) : PySem.Str := if isTup bu = true then v ++ PySem.Str.ofString "+" ++ joinD lb else v
def strV (n : Int) (mi pa pre bu : Dat) (lp lb : List PySem.Str) : PySem.Str := buS (preS (dotS (dotS (tS n) mi) pa) pre bu lp) bu lb
theorem len_app (a b : PySem.Str) : (a ++ b).length = a.length + b.length := by simp [PySem.Str.length, PySem.Str.cps_append]
theorem tS_len {n : Int} (h0 : 0 ≤ n) (h1 : n < 10 ^ 400) : (tS n).length ≤ 500 := by
  have h : n < 10 ^ 500 := by omega
  exact int_len h0 h
theorem dot1 : (PySem.Str.ofString ".").length = 1 := by decide +kernel
theorem minus1 : (PySem.Str.ofString "-").length = 1 := by decide +kernel
theorem plus1 : (PySem.Str.ofString "+").length = 1 := by decide +kernel
theorem dotS_len {v : PySem.Str} {d : Dat} (h : NumD d) : (dotS v d).length ≤ v.length + 501 := by
  rcases h with rfl | ⟨n, rfl, h0, h1⟩
  · exact Nat.le_add_right _ _
  · show (v ++ PySem.Str.ofString "." ++ tS n).length ≤ _
    have := tS_len h0 h1
    rw [len_app, len_app, dot1]; omega
theorem IdsD.empty {d : Dat} {l : List PySem.Str} (h : IdsD d l) : (isTup d && l.isEmpty) = true ↔ d = .tuple [] := by
  cases h with
  | none => exact ⟨(fun q => by cases q), (fun q => by cases q)⟩
  | tup => cases l with
    | nil => exact ⟨fun _ => rfl, fun _ => rfl⟩
    | cons => exact ⟨(fun q => by cases q), (fun q => by cases q)⟩
theorem ev_join {c : Cx} {ρ : Rho} {e : Expr} {k : Nat} {p0 ap pos : Pos} {l : List PySem.Str} (s4 : (l.map (·.length)).sum + l.length * 1 ≤ 16777216) (h : EV c ρ e (some (dt (l.map .str))))
    (hs : starEach [e] c.en = (false, eval e c.en) :: starEach [] c.en) {pl : Sem Bool}
    (he3 : eval (.Call (.Attribute (.Constant (.str (PySem.Str.ofString ".")) k p0) "join" ap) [e] [] pos) c.en = (do
      let ov ← eval (.Constant (.str (PySem.Str.ofString ".")) k p0) c.en
      standAt ap.atName
      let (f, first) ← holding [ov] (getMethod ov "join" pl)
      callWith pos f first (backTo pos (starEach [e] c.en)) (backToKw pos (keywordEach [] c.en)))) :
    EV c ρ (.Call (.Attribute (.Constant (.str (PySem.Str.ofString ".")) k p0) "join" ap) [e] [] pos) (some (ds (joinD l))) :=
  ev_method ev_str (gm_join_tuple (by rw [dot1]; exact s4)) (evs_cons h evs_nil hs) kws_nil he3
theorem ev_join3 {c : Cx} {ρ : Rho} {e1 e2 e3 : Expr} {p1 p3 pos : Pos} {a b d : PySem.Str} (h1 : EV c ρ e1 (some (ds a))) (h2 : EV c ρ e2 (some (ds b))) (h3 : EV c ρ e3 (some (ds d))) (l1 : a.length ≤ 100000) (l2 : b.length ≤ 100000) (l3 : d.length ≤ 100000) :
    EV c ρ (.JoinedStr [.FormattedValue e1 115 none p1, e2, .FormattedValue e3 115 none p3] pos) (some (ds (a ++ b ++ d))) := by
  have h := ev_joined (pos := pos) (v₁ := .FormattedValue e1 115 none p1) (v₂ := e2) (es := [.FormattedValue e3 115 none p3]) (ys := [a, b, d]) (c := c) (ρ := ρ) ⟨ev_fmt_s h1 l1, h2, ev_fmt_s h3 l3, trivial⟩ (by
    have l0 : PySem.Str.empty.length = 0 := rfl
    simp only [JFit, len_app, l0]
    exact ⟨by omega, by omega, by omega, trivial⟩)
  have e : joinAll PySem.Str.empty [a, b, d] = a ++ b ++ d := by
    show PySem.Str.empty ++ a ++ b ++ d = _
    rw [KPc.empty_app]
  rw [e] at h; exact h
theorem dotS_int {v : PySem.Str} {n : Int} : dotS v (.int n) = v ++ PySem.Str.ofString "." ++ tS n := rfl
set_option maxHeartbeats 4000000 in
theorem fn_str (w : World) {n : Int} {mi pa pre bu : Dat} {lp lb : List PySem.Str} (h0 : 0 ≤ n) (h1 : n < 10 ^ 400) (h2 : NumD mi) (h3 : NumD pa) (h4 : IdsD pre lp) (h5 : IdsD bu lb) (l4 : lp.length ≤ 1000) (l5 : lb.length ≤ 1000) (j4 : (joinD lp).length ≤ 10000) (j5 : (joinD lb).length ≤ 10000)
    (s4 : (lp.map (·.length)).sum + lp.length * 1 ≤ 16777216) (s5 : (lb.map (·.length)).sum + lb.length * 1 ≤ 16777216) (k4 : kqdOk 9 pre = true) (k5 : kqdOk 9 bu = true) :
    FN w 0 false 389 [verD (.int n) mi pa pre bu (.bool true)] [] (some (ds (strV n mi pa pre bu lp lb))) := by
  refine fn_of (f := 389) (ho := by with_unfolding_all rfl) (by kernel_rfl) (o := .ret (ds (strV n mi pa pre bu lp lb))) (binds_ok [("self", verD (.int n) mi pa pre bu (.bool true))] (fun news vs kvs s X a b => ?_) rfl) rfl (fun q => by cases q) (fun mean mg mb base A₀ outer L g₀ os O => ?_) rfl rfl rfl (by simp)
  · obtain ⟨v, rfl, a1⟩ := dall1 a
    obtain rfl := kall0 b
    exact ⟨[("self", v)], BindsTo.of_eq rfl, rfl, a1, trivial⟩
  · have b1 := tS_len h0 h1
    refine ex_cons (ex_assign O (ev_binop (by walk_at "leaf") (by walk_at "fld") (op_mod_d rfl h0 (by omega))) (by kernel_rfl)) ?_
    refine ex_branch (fun ρ' => ρ' "self" = some (verD (.int n) mi pa pre bu (.bool true)) ∧ ρ' "version" = some (ds (dotS (tS n) mi))) ?_ ?_
    · rcases h2 with rfl | ⟨k, rfl, k0, k1⟩
      · exact ⟨_, ex_if (et_compare (by walk_at "fld") (by walk_at "leaf") op_isnot_none) (fun q => by cases q) (fun _ => ex_nil), by walk_at "lk", by walk_at "lk"⟩
      · exact ⟨_, ex_if (et_compare (by walk_at "fld") (by walk_at "leaf") op_isnot_none) (fun _ => ex_one (ex_assign O (ev_binop (by walk_at "leaf") (ev_tuple (l := [.str (tS n), .int k]) (evs_cons (by walk_at "leaf") (evs_cons (by walk_at "fld") evs_nil)) (by show 2 ≤ 1000; decide)) (op_mod_sd rfl (by omega) k0 (by omega))) (by kernel_rfl))) (fun q => by cases q), by walk_at "lk", by walk_at "lk"⟩
    rintro ρ ⟨f1, f2⟩
    have b2 := dotS_len (v := tS n) h2
    unfold strV
    generalize dotS (tS n) mi = v2 at f2 b2 ⊢
    refine ex_branch (fun ρ' => ρ' "self" = some (verD (.int n) mi pa pre bu (.bool true)) ∧ ρ' "version" = some (ds (dotS v2 pa))) ?_ ?_
    · rcases h3 with rfl | ⟨k, rfl, k0, k1⟩
      · exact ⟨_, ex_if (et_compare (by walk_at "fld") (by walk_at "leaf") op_isnot_none) (fun q => by cases q) (fun _ => ex_nil), by walk_at "lk", by walk_at "lk"⟩
      · exact ⟨_, ex_if (et_compare (by walk_at "fld") (by walk_at "leaf") op_isnot_none) (fun _ => ex_one (ex_assign O (ev_binop (by walk_at "leaf") (ev_tuple (l := [.str v2, .int k]) (evs_cons (by walk_at "leaf") (evs_cons (by walk_at "fld") evs_nil)) (by show 2 ≤ 1000; decide)) (op_mod_sd rfl (by omega) k0 (by omega))) (by kernel_rfl))) (fun q => by cases q), by walk_at "lk", by walk_at "lk"⟩
    clear f1 f2 ρ
    rintro ρ ⟨f1, f2⟩
    have b3 := dotS_len (v := v2) h3
    generalize dotS v2 pa = v3 at f2 b3 ⊢
    refine ex_branch (fun ρ' => ρ' "self" = some (verD (.int n) mi pa pre bu (.bool true)) ∧ ρ' "version" = some (ds (preS v3 pre bu lp))) ?_ ?_
    · have e4 := h4.empty
      have hT : (truD pre || ((truD (.bool true) && ((isTup pre && lp.isEmpty) && (isN (.dat bu) && true))) || false)) = (!lp.isEmpty || (isTup pre && isDN bu)) := by
        rw [h4.tru, isN_isDN]
        show (!lp.isEmpty || ((true && ((isTup pre && lp.isEmpty) && (isDN bu && true))) || false)) = _
        cases lp.isEmpty <;> cases isTup pre <;> cases isDN bu <;> rfl
      cases hb : (!lp.isEmpty || (isTup pre && isDN bu)) with
      | true =>
        have ep : pre = .tuple (lp.map .str) := by
          cases h4 with
          | none => cases hb
          | tup => rfl
        have e : preS v3 pre bu lp = v3 ++ PySem.Str.ofString "-" ++ joinD lp := if_pos hb
        rw [e]
        refine ⟨upd ρ "version" (ds (v3 ++ PySem.Str.ofString "-" ++ joinD lp)), ex_if (et_boolop (ets_or (et_value (by walk_at "fld") (ob_dat (h4.top l4))) fun _ => ets_or (et_boolop (ets_and (et_value (by walk_at "fld") (ob_dat (x := .bool true) trivial)) fun _ => ets_and (et_compare (by walk_at "fld") (ev_tuple (l := []) evs_nil (by decide)) (op_eqB O k4 rfl e4)) fun _ => ets_and (et_compare (d₁ := .dat bu) (by walk_at "fld") (by walk_at "leaf") op_is_none) fun _ => ets_and_nil)) fun _ => ets_or_nil)) (fun _ => ?_) (fun q => absurd (q.symm.trans (hT.trans hb)) (by decide)), by walk_at "lk", by walk_at "lk"⟩
        subst ep
        exact ex_one (ex_assign O (ev_join3 (by walk_at "leaf") (by walk_at "leaf") (ev_join s4 (by walk_at "fld") rfl rfl) (by omega) (by decide +kernel) (by omega)) (by kernel_rfl))
      | false =>
        have e : preS v3 pre bu lp = v3 := if_neg (by rw [hb]; decide)
        rw [e]
        exact ⟨_, ex_if (et_boolop (ets_or (et_value (by walk_at "fld") (ob_dat (h4.top l4))) fun _ => ets_or (et_boolop (ets_and (et_value (by walk_at "fld") (ob_dat (x := .bool true) trivial)) fun _ => ets_and (et_compare (by walk_at "fld") (ev_tuple (l := []) evs_nil (by decide)) (op_eqB O k4 rfl e4)) fun _ => ets_and (et_compare (d₁ := .dat bu) (by walk_at "fld") (by walk_at "leaf") op_is_none) fun _ => ets_and_nil)) fun _ => ets_or_nil)) (fun q => absurd (q.symm.trans (hT.trans hb)) (by decide)) (fun _ => ex_nil), by walk_at "lk", by walk_at "lk"⟩
    clear f1 f2 ρ
    rintro ρ ⟨f1, f2⟩
    have b4 : (preS v3 pre bu lp).length ≤ 20000 := by
      unfold preS
      split
      · rw [len_app, len_app, minus1]; omega
      · omega
    generalize preS v3 pre bu lp = v4 at f2 b4 ⊢
    have e5 := h5.empty
    have hT : (truD bu || ((truD (.bool true) && ((isTup bu && lb.isEmpty) && true)) || false)) = isTup bu := by
      rw [h5.tru]
      cases h5 with
      | none => rfl
      | tup => show (!lb.isEmpty || ((true && ((true && lb.isEmpty) && true)) || false)) = true; cases lb.isEmpty <;> rfl
    refine ex_branch (fun ρ' => ρ' "version" = some (ds (buS v4 bu lb))) ?_ (fun ρ' g => ex_ret (ex_return (by walk_at "leaf")))
    cases hb : isTup bu with
    | true =>
      have ep : bu = .tuple (lb.map .str) := by
        cases h5 with
        | none => cases hb
        | tup => rfl
      have e : buS v4 bu lb = v4 ++ PySem.Str.ofString "+" ++ joinD lb := if_pos hb
      rw [e]
      refine ⟨upd ρ "version" (ds (v4 ++ PySem.Str.ofString "+" ++ joinD lb)), ex_if (et_boolop (ets_or (et_value (by walk_at "fld") (ob_dat (h5.top l5))) fun _ => ets_or (et_boolop (ets_and (et_value (by walk_at "fld") (ob_dat (x := .bool true) trivial)) fun _ => ets_and (et_compare (by walk_at "fld") (ev_tuple (l := []) evs_nil (by decide)) (op_eqB O k5 rfl e5)) fun _ => ets_and_nil)) fun _ => ets_or_nil)) (fun _ => ?_) (fun q => absurd (q.symm.trans (hT.trans hb)) (by decide)), by walk_at "lk"⟩
      subst ep
      exact ex_one (ex_assign O (ev_join3 (by walk_at "leaf") (by walk_at "leaf") (ev_join s5 (by walk_at "fld") rfl rfl) (by omega) (by decide +kernel) (by omega)) (by kernel_rfl))
    | false =>
      have e : buS v4 bu lb = v4 := if_neg (by rw [hb]; decide)
      rw [e]
      exact ⟨_, ex_if (et_boolop (ets_or (et_value (by walk_at "fld") (ob_dat (h5.top l5))) fun _ => ets_or (et_boolop (ets_and (et_value (by walk_at "fld") (ob_dat (x := .bool true) trivial)) fun _ => ets_and (et_compare (by walk_at "fld") (ev_tuple (l := []) evs_nil (by decide)) (op_eqB O k5 rfl e5)) fun _ => ets_and_nil)) fun _ => ets_or_nil)) (fun q => absurd (q.symm.trans (hT.trans hb)) (by decide)) (fun _ => ex_nil), by walk_at "lk"⟩
end Mine
end
end
section
open PySem PySem.W PyProof.Rows PySem.Spec PySem.Calls
set_option maxRecDepth 100000
set_option linter.unusedVariables false
noncomputable section
namespace Mine
local macro_rules | `(tactic| walk_at "lk") => `(tactic| first | with_unfolding_all rfl | assumption | (refine (upd_ne (by decide +kernel)).trans ?_; walk_at "lk"))
local macro_rules | `(tactic| walk_at "leaf") => `(tactic| first | exact ev_str | exact ev_int | exact ev_none | exact ev_bool | exact ev_local (by assumption) (by walk_at "lk") (by kernel_rfl) (by kernel_rfl) | exact ev_B (by assumption) (k_int _) Boot.int n_int (by kernel_rfl) (by kernel_rfl))
/-- names that the check of identifiers may be handed -/
structure IdsOk (l : List PySem.Str) : Prop where
  each : ∀ x ∈ l, x.length ≤ 1000 ∧ Shown x
  sum : (l.map (·.length)).sum + l.length * 1 ≤ 16777216
  join : Shown (joinD l)
  many : l.length ≤ 1000
theorem fn_coerceN (w : World) {d : Dat} (h : NumD d) : FN w 0 false 300 [vcls, .dat d, db true] [] (some (.dat d)) := by
  rcases h with rfl | ⟨n, rfl, _, _⟩
  · exact fn_coerce (.inl ⟨rfl, rfl, rfl⟩)
  · exact fn_coerce (.inr (.inl ⟨n, rfl, rfl⟩))
theorem NumD.kq {d : Dat} (h : NumD d) : kqdOk 9 d = true := by
  rcases h with rfl | ⟨n, rfl, _, _⟩ <;> rfl
theorem op_ne_same {c : Cx} {x : Dat} (O : c.Ok) (hx : kqdOk 9 x = true) : OP c (compareOp .NotEq) (.dat x) (.dat x) (some (db false)) := op_neB (b := true) O hx hx ⟨fun _ => rfl, fun _ => rfl⟩
theorem ev_validL {c : Cx} {ρ : Rho} (O : c.Ok) (hr : 1 < c.rk) {ap pos kp : Pos} {e1 e2 n : Expr} {allow : Bool} {l : List PySem.Str} (hy : IdsOk l) (hall : l.all (okI allow) = true) (h0 : EV c ρ n (some vcls)) (he : EV c ρ e1 (some (dt (l.map .str)))) (he2 : EV c ρ e2 (some (db allow)))
    (hs : starEach [e1] c.en = (false, eval e1 c.en) :: starEach [] c.en) {pl : Sem Bool}
    (he3 : eval (.Call (.Attribute n "_validate_identifiers" ap) [e1] [⟨some "allow_leading_zeroes", e2, kp⟩] pos) c.en = (do
      let ov ← eval n c.en
      standAt ap.atName
      let (f, first) ← holding [ov] (getMethod ov "_validate_identifiers" pl)
      callWith pos f first (backTo pos (starEach [e1] c.en)) (backToKw pos (keywordEach [⟨some "allow_leading_zeroes", e2, kp⟩] c.en)))) : EV c ρ (.Call (.Attribute n "_validate_identifiers" ap) [e1] [⟨some "allow_leading_zeroes", e2, kp⟩] pos) (some dn) := by
  have h := ev_method (kws := [⟨some "allow_leading_zeroes", e2, kp⟩]) h0 (gm_cls_cm (p := 364) O (fn_valid c.w l allow hy.each hy.sum hy.join) hr (fun q => by cases q) (by kernel_rfl) (by kernel_rfl) (by kernel_rfl) (by kernel_rfl) (rest := [.bool false]) (by kernel_rfl) (by kernel_rfl)) (evs_cons he evs_nil hs) ⟨rfl, he2, trivial⟩ he3
  rw [if_pos hall] at h; exact h
set_option maxHeartbeats 4000000 in
theorem fn_kwargs (w : World) {n : Int} {mi pa bu : Dat} {lp lb : List PySem.Str} (h0 : 0 ≤ n) (h1 : n < 10 ^ 400) (h2 : NumD mi) (h3 : NumD pa) (h5 : IdsD bu lb) (i4 : IdsOk lp) (i5 : IdsOk lb) (a4 : lp.all (okI false) = true) (a5 : lb.all (okI true) = true) :
    FN w 2 false 372 [vcls, di n, .dat mi, .dat pa, dt (lp.map .str), .dat bu, db true] [] (some dn) := by
  refine fn_of (f := 372) (ho := by with_unfolding_all rfl) (by kernel_rfl) (o := .next (rho [("cls", vcls), ("major", di n), ("minor", .dat mi), ("patch", .dat pa), ("prerelease", dt (lp.map .str)), ("build", .dat bu), ("partial", db true)])) (binds_ok [("cls", vcls), ("major", di n), ("minor", .dat mi), ("patch", .dat pa), ("prerelease", dt (lp.map .str)), ("build", .dat bu), ("partial", db true)] (fun news vs kvs s X a b => ?_) rfl) rfl (fun q => by cases q) (fun mean mg mb base A₀ outer L g₀ os O => ?_) rfl rfl rfl (by simp)
  · obtain ⟨v1, us, rfl, a1, a⟩ := dallS a
    obtain ⟨v2, us, rfl, a2, a⟩ := dallS a
    obtain ⟨v3, us, rfl, a3, a⟩ := dallS a
    obtain ⟨v4, us, rfl, a4, a⟩ := dallS a
    obtain ⟨v5, v6, v7, rfl, a5, a6, a7⟩ := dall3 a
    obtain rfl := kall0 b
    exact ⟨[("cls", v1), ("major", v2), ("minor", v3), ("patch", v4), ("prerelease", v5), ("build", v6), ("partial", v7)], BindsTo.of_eq rfl, rfl, a1, rfl, a2, rfl, a3, rfl, a4, rfl, a5, rfl, a6, rfl, a7, trivial⟩
  · refine ex_cons (ex_if (et_boolop (ets_or (et_compare (by walk_at "leaf") (ev_call (by walk_at "leaf") (evs_cons (by walk_at "leaf") evs_nil) kws_nil fun _ => cb_int_int.callable (fun _ q => by cases q)) (op_ne_same O rfl)) fun _ => ets_or (et_compare (d₁ := .dat mi) (by walk_at "leaf") (ev_method (by walk_at "leaf") (gm_cls_cm (p := 302) O (fn_coerceN w h2) (by show 0 < 2; decide) (fun q => by cases q) (by kernel_rfl) (by kernel_rfl) (by kernel_rfl) (by kernel_rfl) (rest := [.bool false]) (by kernel_rfl) (by kernel_rfl)) (evs_cons (by walk_at "leaf") (evs_cons (by walk_at "leaf") evs_nil)) kws_nil) (op_ne_same O h2.kq)) fun _ =>
      ets_or (et_compare (d₁ := .dat pa) (by walk_at "leaf") (ev_method (by walk_at "leaf") (gm_cls_cm (p := 302) O (fn_coerceN w h3) (by show 0 < 2; decide) (fun q => by cases q) (by kernel_rfl) (by kernel_rfl) (by kernel_rfl) (by kernel_rfl) (rest := [.bool false]) (by kernel_rfl) (by kernel_rfl)) (evs_cons (by walk_at "leaf") (evs_cons (by walk_at "leaf") evs_nil)) kws_nil) (op_ne_same O h3.kq)) fun _ =>
      ets_or (et_boolop (ets_and (b' := false) (et_compare (d₁ := dt (lp.map .str)) (by walk_at "leaf") (by walk_at "leaf") op_is_none) fun q => by cases q)) fun _ => ets_or (et_boolop (ets_and (et_compare (d₁ := .dat bu) (by walk_at "leaf") (by walk_at "leaf") op_is_none) fun _ => ets_and (et_not (et_value (by walk_at "leaf") (ob_dat (x := .bool true) trivial))) fun _ => ets_and_nil)) fun _ => ets_or_nil)) (fun q => ?_) (fun _ => ex_nil)) ?_
    · exfalso
      revert q
      show (false || (false || (false || ((false && false) || ((isN (.dat bu) && (!true && true)) || false))))) = true → False
      cases isN (.dat bu) <;> simp
    refine ex_cons (ex_if (et_compare (d₁ := dt (lp.map .str)) (by walk_at "leaf") (by walk_at "leaf") op_isnot_none) (fun _ => ex_one (ex_expr (ev_validL O (by show 1 < 2; decide) i4 a4 (by walk_at "leaf") (by walk_at "leaf") (by walk_at "leaf") rfl rfl))) (fun q => by cases q)) ?_
    cases h5 with
    | none => exact ex_one (ex_if (et_compare (d₁ := dn) (by walk_at "leaf") (by walk_at "leaf") op_isnot_none) (fun q => by cases q) (fun _ => ex_nil))
    | tup => exact ex_one (ex_if (et_compare (d₁ := dt (lb.map .str)) (by walk_at "leaf") (by walk_at "leaf") op_isnot_none) (fun _ => ex_one (ex_expr (ev_validL O (by show 1 < 2; decide) i5 a5 (by walk_at "leaf") (by walk_at "leaf") (by walk_at "leaf") rfl rfl))) (fun q => by cases q))
end Mine
end
end
section
open PySem PySem.W PyProof.Rows PySem.Spec PySem.Calls
set_option maxRecDepth 100000
set_option linter.unusedVariables false
noncomputable section
namespace Mine
/-! an object that is being filled -/
/-- the entries of its dict: names in order, and of some the datum -/
def EntsD (news : Led) : List (PySem.Str × Option Dat) → List DictEntry → Prop
  | [], [] => True
  | (k, o) :: r, e :: es => (∃ t, e.key = .str k t) ∧ (∀ y, o = some y → DatIn news e.val y) ∧ EntsD news r es
  | _, _ => False
theorem EntsD.mono {news news' : Led} (hs : news ⊆ news') : ∀ {ks : List (PySem.Str × Option Dat)} {es : List DictEntry}, EntsD news ks es → EntsD news' ks es
  | [], [], _ => trivial
  | (_, _) :: _, _ :: _, ⟨a, b, c⟩ => ⟨a, fun y h => (b y h).mono hs, EntsD.mono hs c⟩
theorem isStr_str (k name : PySem.Str) (t : Tok) : (Value.str k t).isStr name = (k == name) := rfl
theorem EntsD.get {news : Led} (name : PySem.Str) : ∀ {ks : List (PySem.Str × Option Dat)} {es : List DictEntry}, EntsD news ks es →
    (∀ o, ks.lookup name = some o → ∃ v, getL name es = some (some v) ∧ ∀ y, o = some y → DatIn news v y) ∧ (ks.lookup name = none → getL name es = some none)
  | [], [], _ => ⟨(fun o h => by cases h), fun _ => rfl⟩
  | (k, o) :: r, e :: es, ⟨⟨t, a⟩, b, c⟩ => by
    have ih := EntsD.get name c
    by_cases hk : k = name
    · subst hk
      have h1 : (e :: es).find? (·.key.isStr k) = some e := by rw [List.find?_cons, a, isStr_str, beq_self_eq_true]
      refine ⟨fun o' h => ?_, fun h => ?_⟩
      · rw [List.lookup_cons, beq_self_eq_true] at h
        cases h
        exact ⟨e.val, by unfold getL; rw [h1], b⟩
      · rw [List.lookup_cons, beq_self_eq_true] at h; cases h
    · have hne : (k == name) = false := by simpa using hk
      have hne2 : (name == k) = false := by simpa using (Ne.symm hk)
      have h1 : getL name (e :: es) = getL name es := by
        unfold getL
        rw [List.find?_cons, a, isStr_str, hne, List.any_cons]
        have : e.refKey = false := by unfold DictEntry.refKey; rw [a]
        rw [this, Bool.false_or]
      rw [h1, List.lookup_cons, hne2]
      exact ih
theorem EntsD.put {news : Led} (name : PySem.Str) (h : Int) (t : Tok) (v : Value) (o : Option Dat) (hv : ∀ y, o = some y → DatIn news v y) : ∀ {ks : List (PySem.Str × Option Dat)} {es : List DictEntry}, EntsD news ks es → ks.lookup name = none → EntsD news (ks ++ [(name, o)]) (putL name h (.str name t) v es)
  | [], [], _, _ => ⟨⟨t, rfl⟩, hv, trivial⟩
  | (k, o') :: r, e :: es, ⟨⟨t', a⟩, b, c⟩, hn => by
    have hk : (name == k) = false := by
      cases q : name == k
      · rfl
      · rw [List.lookup_cons, q] at hn; cases hn
    rw [List.lookup_cons, hk] at hn
    have hk2 : (k == name) = false := by
      have : ¬ name = k := by simpa using hk
      simpa using (Ne.symm this)
    have e1 : putL name h (.str name t) v (e :: es) = e :: putL name h (.str name t) v es := by
      show (if e.key.isStr name then _ else _) = _
      rw [a, isStr_str, hk2, if_neg (by decide)]
    rw [e1]
    exact ⟨⟨t', a⟩, b, EntsD.put name h t v o hv c hn⟩
theorem EntsD.len {news : Led} : ∀ {ks : List (PySem.Str × Option Dat)} {es : List DictEntry}, EntsD news ks es → es.length = ks.length
  | [], [], _ => rfl
  | (_, _) :: _, _ :: _, ⟨_, _, c⟩ => congrArg (· + 1) (EntsD.len c)
def Fill (c : Cx) (x dx : Addr) (m : PySem.Str → Option Value) (news : Led) (ks : List (PySem.Str × Option Dat)) (s : Shared) : Prop :=
  (x, instObj 457 dx) ∈ news ∧ (∀ p ∈ news, p.1 ≠ dx) ∧ ∃ es n, EntsD news ks es ∧ St c m ((dx, dictOf es n) :: news) s
section
variable {c : Cx} {m : PySem.Str → Option Value} {news news' : Led} {s s' : Shared} {ρ ρ' : Rho}
theorem gm_own {x C : Addr} {fs : List (PySem.Str × Dat)} {no : List PySem.Str} {name : PySem.Str} {ds : List D} {kds : List (PySem.Str × D)} {r : Option D} (h : GM c (.inst C fs no) name ds kds r) : GM c (.own x C fs no) name ds kds r :=
  fun m news s v pl Q E S hv hQ => h m news s v pl Q E S hv.ofOwn.1 hQ
theorem oddDict {es : List DictEntry} {n : Nat} : odd (dictOf es n) := ⟨by show Value.type "dict" ≠ Value.type "tuple"; decide, by show Value.type "dict" ≠ Value.type "list"; decide, by show Value.type "dict" ≠ Value.type "re.Match"; decide, fun a q => by cases q⟩
/-- what holds of data holds without the dict -/
theorem drop_dat {dx : Addr} {es : List DictEntry} {n : Nat} (S : St c m news s) (h : (dx, dictOf es n) ∈ news) {v : Value} {d : Dat} (hd : DatIn news v d) : DatIn (drop dx news) v d := by
  obtain ⟨h₀, G⟩ := S.gr
  refine datIn_drop (fun o' ho' => ?_) hd
  have e1 := (G.N _ h).1
  have e2 := (G.N _ ho').1
  rw [show (dx, dictOf es n).1 = (dx, o').1 from rfl, e2] at e1
  cases e1
  exact oddDict
theorem drop_ents {dx : Addr} {es : List DictEntry} {n : Nat} (S : St c m news s) (h : (dx, dictOf es n) ∈ news) : ∀ {ks : List (PySem.Str × Option Dat)} {es' : List DictEntry}, EntsD news ks es' → EntsD (drop dx news) ks es'
  | [], [], _ => trivial
  | (_, _) :: _, _ :: _, ⟨a, b, c⟩ => ⟨a, fun y q => drop_dat S h (b y q), drop_ents S h c⟩
theorem fill_of (hcm : c.cmp = none) {x dx : Addr} {es : List DictEntry} {n : Nat} {ks : List (PySem.Str × Option Dat)} (S : St c m news s) (hx : (x, instObj 457 dx) ∈ news) (hne : x ≠ dx) (hd : (dx, dictOf es n) ∈ news) (he : EntsD news ks es) : Fill c x dx m (drop dx news) ks s := by
  refine ⟨mem_drop.mpr ⟨hx, hne⟩, fun p hp => (mem_drop.mp hp).2, es, n, drop_ents S hd he, ?_⟩
  obtain ⟨h₀, G⟩ := S.gr
  refine ⟨S.os, S.ga, h₀, G.sub hcm fun p hp => ?_⟩
  rcases List.mem_cons.mp hp with rfl | hp
  · exact hd
  · exact (mem_drop.mp hp).1
/-- self.name = e -/
theorem fill_assign (O : c.Ok) (hcm : c.cmp = none) {x dx : Addr} {ks : List (PySem.Str × Option Dat)} {fs : List (PySem.Str × Dat)} {no : List PySem.Str} {name : PySem.Str} {e : Expr} {o : Option Dat} {p1 p2 pos : Pos} {rest : List Stmt} {Q : Flow → Shared → Prop} {E : Value → Shared → Prop}
    (F : Fill c x dx m news ks s) (hm : m "self" = some (.ref x)) (hk1 : c.env.kindOf "self" = some .local) (hρ : Loc ρ m news)
    (hfs : ∀ k d, fs.lookup k = some d → ks.lookup k = some (some d)) (hno : ∀ k ∈ no, ks.lookup k = none) (hname : ks.lookup name = none) (hlen : ks.length ≤ 100)
    (he : EV c (upd ρ "self" (.own x 457 fs no)) e (some (match o with | some y => .dat y | none => .any)))
    (ht : takerIn (KF c.w) 457 name = some none)
    (k : ∀ news' s', news ⊆ news' → Fill c x dx m news' (ks ++ [(name, o)]) s' → wpAny c.M c.A (execs rest c.env) Q E s')
    (hs : swapsWith e (some (.Attribute (.Name "self" p1) name p2)) pos.line c.env = pure false) :
    wpAny c.M c.A (execs (.Assign [.Attribute (.Name "self" p1) name p2] e pos :: rest) c.env) Q E s := by
  obtain ⟨hx, hn, es, n, hE, S⟩ := F
  have hxd : x ≠ dx := fun q => hn _ hx q
  refine wpAny_execs_cons (plainObj_wpAny_Assign_Attribute ?_ hs)
  have hself : DIn ((dx, dictOf es n) :: news) (.ref x) (.own x 457 fs no) := .own (List.mem_cons_of_mem _ hx) (List.mem_cons_self ..) (fun k d q => by
    obtain ⟨v, a, b⟩ := (hE.get k).1 _ (hfs k d q)
    exact ⟨v, a, (b d rfl).mono (List.subset_cons_self _ _)⟩) (fun k q => (hE.get k).2 (hno k q))
  have hρ' : Loc (upd ρ "self" (.own x 457 fs no)) m ((dx, dictOf es n) :: news) := fun y d q => by
    unfold upd at q
    by_cases hy : y = PySem.Str.ofString "self"
    · rw [if_pos hy] at q; cases q; exact ⟨.ref x, by rw [hy]; exact hm, hself⟩
    · rw [if_neg hy] at q
      obtain ⟨v, a, b⟩ := hρ y d q
      exact ⟨v, a, b.mono (List.subset_cons_self _ _)⟩
  refine he.env hcm m _ s _ _ S hρ' fun v n₁ s₁ hn₁ S₁ hv => ?_
  obtain ⟨h₀, G⟩ := S₁.gr
  have GF : Fr h₀ c.L s₁.heap m := by have := G.F; rwa [Cx.fm_eq hcm] at this
  have hd1 : (dx, dictOf es n) ∈ n₁ := hn₁ (List.mem_cons_self ..)
  have F1 : Fill c x dx m (drop dx n₁) ks s₁ := fill_of hcm S₁ (hn₁ (List.mem_cons_of_mem _ hx)) hxd hd1 (hE.mono fun _ hp => hn₁ (List.mem_cons_of_mem _ hp))
  have hv1 : ∀ y, o = some y → DatIn (drop dx n₁) v y := fun y q => by
    subst q
    cases hv with | dat hv => exact drop_dat S₁ hd1 hv
  have hsub : news ⊆ drop dx n₁ := fun p hp => mem_drop.mpr ⟨hn₁ (List.mem_cons_of_mem _ hp), hn p hp⟩
  obtain ⟨hx1, hne1, es1, n1, hE1, S1'⟩ := F1
  obtain ⟨h₀', G'⟩ := S1'.gr
  have GF' : Fr h₀' c.L s₁.heap m := by have := G'.F; rwa [Cx.fm_eq hcm] at this
  refine wpAny_Name (wpAny_loadName_local O.kind hk1 GF'.ns hm ?_) (by decide +kernel)
  have hl : (getL name es1).isSome = true := by rw [(hE1.get name).2 hname]; rfl
  have hput := hE1.put name (PyData.keyHash c.w.params name) (s₁.toks + 1) v o hv1 hname
  refine set_dict (s := s₁) GF' G'.X G'.N (InstAt.of_news G'.N (List.mem_cons_of_mem _ hx1) (List.mem_cons_self ..)) rfl (by kernel_rfl) (by kernel_rfl) ht (by kernel_rfl) hl rfl (.head hne1) (by rw [hput.len, List.length_append, List.length_singleton]; omega) fun h' F' N' => ?_
  exact k (drop dx n₁) _ hsub ⟨hx1, hne1, _, _, hput, S1'.heap ⟨h₀', G'.toGr0.at (by rw [Cx.fm_eq hcm]; exact F'), N', .none hcm⟩⟩
/-- fields as entries -/
def ksOf (fs : List (PySem.Str × Dat)) : List (PySem.Str × Option Dat) := fs.map fun p => (p.1, some p.2)
theorem ksOf_look (k : PySem.Str) : ∀ fs : List (PySem.Str × Dat), (ksOf fs).lookup k = (fs.lookup k).map some
  | [] => rfl
  | (a, d) :: r => by
    show List.lookup k ((a, some d) :: ksOf r) = _
    rw [List.lookup_cons, List.lookup_cons, ksOf_look k r]
    cases k == a <;> rfl
theorem look_app {α : Type} (k : PySem.Str) {b : List (PySem.Str × α)} {d : α} : ∀ {a : List (PySem.Str × α)}, a.lookup k = some d → (a ++ b).lookup k = some d
  | [], h => by cases h
  | (x, y) :: r, h => by
    rw [List.cons_append, List.lookup_cons]
    rw [List.lookup_cons] at h
    cases hk : k == x
    · rw [hk] at h; exact look_app k h
    · rw [hk] at h; exact h
/-- what stands behind the fields' names: the body of an __init__ from the first store on -/
def IX (c : Cx) (x dx : Addr) (news₀ : Led) (ρ : Rho) (ss : List Stmt) (d : D) : Prop :=
  ∀ m news s Q E, PassesOwn c.M c.A c.env E → news₀ ⊆ news → (x, instObj 457 dx) ∈ news → (dx, dictOf [] 0) ∈ news → St c m news s → Loc ρ m news →
    (∀ m' news' s', news₀ ⊆ news' → St c m' news' s' → DIn news' (.ref x) d → Q .next s') → wpAny c.M c.A (execs ss c.env) Q E s
theorem ix_cons (hc : c.cmp = none) {x dx : Addr} {news₀ : Led} {st : Stmt} {rest : List Stmt} {d : D} (h : EX1 c ρ st (.next ρ')) (k : IX c x dx news₀ ρ' rest d) : IX c x dx news₀ ρ (st :: rest) d := by
  intro m news s Q E hE hn hx hd S hρ hQ
  refine wpAny_execs_cons (h hc m news s _ E hE S hρ fun m₁ n₁ s₁ hn₁ S₁ hρ₁ => ?_)
  exact k m₁ n₁ s₁ Q E hE (fun _ hp => hn₁ (hn hp)) (hn₁ hx) (hn₁ hd) S₁ hρ₁ hQ
theorem exi_of (hc : c.cmp = none) {ss : List Stmt} {d : D} (h : ∀ x dx news, (∀ p ∈ news, p.1 < dx) → dx < x → IX c x dx news (upd ρ "self" (.own x 457 [] vno)) ss d) : EXI c ρ 457 ss (some d) := by
  intro m news s x dx Q E hE S hρ hm hlt hlt' hQ
  refine h x dx news hlt hlt' m _ s Q E hE (fun _ hp => List.mem_cons_of_mem _ (List.mem_cons_of_mem _ hp)) (List.mem_cons_self ..) (List.mem_cons_of_mem _ (List.mem_cons_self ..)) S (fun y d q => ?_) hQ
  unfold upd at q
  by_cases hy : y = PySem.Str.ofString "self"
  · rw [if_pos hy] at q; cases q
    exact ⟨.ref x, by rw [hy]; exact hm, .own (List.mem_cons_self ..) (List.mem_cons_of_mem _ (List.mem_cons_self ..)) (fun k d q => by cases q) (fun k _ => rfl)⟩
  · rw [if_neg hy] at q
    obtain ⟨v, a, b⟩ := hρ y d q
    exact ⟨v, a, b.mono (fun _ hp => List.mem_cons_of_mem _ (List.mem_cons_of_mem _ hp))⟩
/-- the stores -/
theorem ix_fill (O : c.Ok) (hcm : c.cmp = none) (hr : 1 < c.rk) (hfix : c.fix = false) {x dx : Addr} {news₀ : Led} (hlt : ∀ p ∈ news₀, p.1 < dx) (hlt' : dx < x) {ma mi pa pre bu pt : Dat} {lp lb : List PySem.Str}
    (h4 : IdsD pre lp) (h5 : IdsD bu lb) (o4 : ∀ y ∈ lp, IdOk y) (o5 : ∀ y ∈ lb, IdOk y) (l4 : lp.length ≤ 1000) (l5 : lb.length ≤ 1000)
    (r0 : ρ "self" = some (.own x 457 [] vno)) (r1 : ρ "major" = some (.dat ma)) (r2 : ρ "minor" = some (.dat mi)) (r3 : ρ "patch" = some (.dat pa)) (r4 : ρ "prerelease" = some (.dat pre)) (r5 : ρ "build" = some (.dat bu)) (r6 : ρ "partial" = some (.dat pt))
    (k0 : c.env.kindOf "self" = some .local) (k1 : c.env.kindOf "major" = some .local) (k2 : c.env.kindOf "minor" = some .local) (k3 : c.env.kindOf "patch" = some .local) (k4 : c.env.kindOf "prerelease" = some .local) (k5 : c.env.kindOf "build" = some .local) (k6 : c.env.kindOf "partial" = some .local)
    {a1 b1 c1 p1 a2 b2 c2 p2 a3 b3 c3 p3 a4 b4 c4 p4 a5 b5 c5 p5 a6 b6 c6 p6 a7 b7 p7 s7 t7 q7 v7 u7 a8 b8 p8 s8 t8 q8 v8 u8 : Pos} {j7 j8 : Nat} {pl7 pl8 : Sem Bool}
    (he7 : eval (.Call (.Attribute (.Name "self" s7) "_build_precedence_key" t7) [] [⟨some "with_build", .Constant (.bool false) j7 v7, u7⟩] q7) c.en = (do
      let ov ← eval (.Name "self" s7) c.en
      standAt t7.atName
      let (f, first) ← holding [ov] (getMethod ov "_build_precedence_key" pl7)
      callWith q7 f first (backTo q7 (starEach [] c.en)) (backToKw q7 (keywordEach [⟨some "with_build", .Constant (.bool false) j7 v7, u7⟩] c.en))))
    (he8 : eval (.Call (.Attribute (.Name "self" s8) "_build_precedence_key" t8) [] [⟨some "with_build", .Constant (.bool true) j8 v8, u8⟩] q8) c.en = (do
      let ov ← eval (.Name "self" s8) c.en
      standAt t8.atName
      let (f, first) ← holding [ov] (getMethod ov "_build_precedence_key" pl8)
      callWith q8 f first (backTo q8 (starEach [] c.en)) (backToKw q8 (keywordEach [⟨some "with_build", .Constant (.bool true) j8 v8, u8⟩] c.en)))) :
    IX c x dx news₀ ρ [.Assign [.Attribute (.Name "self" a1) "major" b1] (.Name "major" c1) p1, .Assign [.Attribute (.Name "self" a2) "minor" b2] (.Name "minor" c2) p2, .Assign [.Attribute (.Name "self" a3) "patch" b3] (.Name "patch" c3) p3,
      .Assign [.Attribute (.Name "self" a4) "prerelease" b4] (.Name "prerelease" c4) p4, .Assign [.Attribute (.Name "self" a5) "build" b5] (.Name "build" c5) p5, .Assign [.Attribute (.Name "self" a6) "partial" b6] (.Name "partial" c6) p6,
      .Assign [.Attribute (.Name "self" a7) "_cmp_precedence_key" b7] (.Call (.Attribute (.Name "self" s7) "_build_precedence_key" t7) [] [⟨some "with_build", .Constant (.bool false) j7 v7, u7⟩] q7) p7,
      .Assign [.Attribute (.Name "self" a8) "_sort_precedence_key" b8] (.Call (.Attribute (.Name "self" s8) "_build_precedence_key" t8) [] [⟨some "with_build", .Constant (.bool true) j8 v8, u8⟩] q8) p8] (verD ma mi pa pre bu pt) := by
  intro m news s Q E hE hn hx hd S hρ hQ
  obtain ⟨v, hm, hv⟩ := hρ _ _ r0
  obtain rfl := hv.ofOwn.2
  have en : ∀ {y : PySem.Str}, c.env.kindOf y = c.en.kindOf y := fun {y} => by rw [Cx.en_eq hcm]
  have F := fill_of (ks := []) hcm S hx (Nat.ne_of_gt hlt') hd trivial
  have hn0 : news₀ ⊆ drop dx news := fun p hp => mem_drop.mpr ⟨hn hp, Nat.ne_of_lt (hlt p hp)⟩
  -- the data of the locals, without the dict
  have loc : Loc (rho [("major", .dat ma), ("minor", .dat mi), ("patch", .dat pa), ("prerelease", .dat pre), ("build", .dat bu), ("partial", .dat pt)]) m (drop dx news) := by
    have one : ∀ {y : PySem.Str} {d : Dat}, ρ y = some (.dat d) → ∃ v, m y = some v ∧ DIn (drop dx news) v (.dat d) := fun {y d} q => by
      obtain ⟨v, a, b⟩ := hρ _ _ q
      cases b with | dat b => exact ⟨v, a, .dat (drop_dat S hd b)⟩
    intro y d q
    unfold rho at q
    simp only [List.reverse_cons, List.reverse_nil, List.nil_append, List.cons_append] at q
    simp only [List.lookup_cons, List.lookup_nil] at q
    split at q
    · rename_i h; cases q; rw [eq_of_beq h]; exact one r6
    · split at q
      · rename_i h; cases q; rw [eq_of_beq h]; exact one r5
      · split at q
        · rename_i h; cases q; rw [eq_of_beq h]; exact one r4
        · split at q
          · rename_i h; cases q; rw [eq_of_beq h]; exact one r3
          · split at q
            · rename_i h; cases q; rw [eq_of_beq h]; exact one r2
            · split at q
              · rename_i h; cases q; rw [eq_of_beq h]; exact one r1
              · cases q
  generalize drop dx news = N0 at F hn0 loc
  have nm : ∀ {ρ' : Rho} {fs : List (PySem.Str × Dat)} {no : List PySem.Str} {y : PySem.Str} {d : D} {pos : Pos}, ρ' y = some d → ¬ y = PySem.Str.ofString "self" → c.env.kindOf y = some .local → (y == ("__debug__" : PySem.Str)) = false → EV c (upd ρ' "self" (.own x 457 fs no)) (.Name y pos) (some d) :=
    fun h1 h2 h3 h4 => ev_local O ((upd_ne h2).trans h1) (by rw [← en]; exact h3) h4
  refine fill_assign (fs := []) (no := []) (o := some ma) O hcm F hm k0 loc (fun k d q => by cases q) (fun k q => by cases q) rfl (by decide) (nm (by with_unfolding_all rfl) (by decide +kernel) k1 (by decide +kernel)) (by kernel_rfl) (fun N1 s1 hs1 F => ?_) rfl
  refine fill_assign (fs := []) (no := []) (o := some mi) O hcm F hm k0 (loc.mono hs1) (fun k d q => by cases q) (fun k q => by cases q) (by kernel_rfl) (by show 1 ≤ 100; decide) (nm (by with_unfolding_all rfl) (by decide +kernel) k2 (by decide +kernel)) (by kernel_rfl) (fun N2 s2 hs F => ?_) rfl
  have hs2 := List.Subset.trans hs1 hs
  refine fill_assign (fs := []) (no := []) (o := some pa) O hcm F hm k0 (loc.mono hs2) (fun k d q => by cases q) (fun k q => by cases q) (by kernel_rfl) (by show 2 ≤ 100; decide) (nm (by with_unfolding_all rfl) (by decide +kernel) k3 (by decide +kernel)) (by kernel_rfl) (fun N3 s3 hs F => ?_) rfl
  have hs3 := List.Subset.trans hs2 hs
  refine fill_assign (fs := []) (no := []) (o := some pre) O hcm F hm k0 (loc.mono hs3) (fun k d q => by cases q) (fun k q => by cases q) (by kernel_rfl) (by show 3 ≤ 100; decide) (nm (by with_unfolding_all rfl) (by decide +kernel) k4 (by decide +kernel)) (by kernel_rfl) (fun N4 s4 hs F => ?_) rfl
  have hs4 := List.Subset.trans hs3 hs
  refine fill_assign (fs := []) (no := []) (o := some bu) O hcm F hm k0 (loc.mono hs4) (fun k d q => by cases q) (fun k q => by cases q) (by kernel_rfl) (by show 4 ≤ 100; decide) (nm (by with_unfolding_all rfl) (by decide +kernel) k5 (by decide +kernel)) (by kernel_rfl) (fun N5 s5 hs F => ?_) rfl
  have hs5 := List.Subset.trans hs4 hs
  refine fill_assign (fs := []) (no := []) (o := some pt) O hcm F hm k0 (loc.mono hs5) (fun k d q => by cases q) (fun k q => by cases q) (by kernel_rfl) (by show 5 ≤ 100; decide) (nm (by with_unfolding_all rfl) (by decide +kernel) k6 (by decide +kernel)) (by kernel_rfl) (fun N6 s6 hs F => ?_) rfl
  have hs6 := List.Subset.trans hs5 hs
  have hf6 : ∀ k d, (vfs ma mi pa pre bu pt).lookup k = some d → (ksOf (vfs ma mi pa pre bu pt)).lookup k = some (some d) := fun k d q => by rw [ksOf_look, q]; rfl
  have hn6 : ∀ k ∈ vno, (ksOf (vfs ma mi pa pre bu pt)).lookup k = none := fun k hk => by
    rw [ksOf_look]
    simp only [vno, List.mem_cons, List.not_mem_nil, or_false] at hk
    rcases hk with rfl | rfl | rfl | rfl | rfl <;> with_unfolding_all rfl
  have F : Fill c x dx m N6 (ksOf (vfs ma mi pa pre bu pt)) s6 := F
  have gm : ∀ {wb : Bool}, GM c (.own x 457 (vfs ma mi pa pre bu pt) vno) "_build_precedence_key" [] [("with_build", db wb)] (some .any) := fun {wb} =>
    gm_own (gm_inst O (fn_build c.w (wb := wb) (fs := vfs ma mi pa pre bu pt) (no := vno) rfl rfl rfl rfl rfl h4 h5 o4 o5 l4 l5) hr (fun _ => hfix) (by simp [vno]) (by kernel_rfl) (by kernel_rfl) (by kernel_rfl) (by kernel_rfl))
  have sl : ∀ {pos : Pos}, EV c (upd (rho [("major", .dat ma), ("minor", .dat mi), ("patch", .dat pa), ("prerelease", .dat pre), ("build", .dat bu), ("partial", .dat pt)]) "self" (.own x 457 (vfs ma mi pa pre bu pt) vno)) (.Name "self" pos) (some (.own x 457 (vfs ma mi pa pre bu pt) vno)) :=
    fun {pos} => ev_local O (if_pos rfl) (by rw [← en]; exact k0) (by decide +kernel)
  refine fill_assign (fs := vfs ma mi pa pre bu pt) (no := vno) (o := none) O hcm F hm k0 (loc.mono hs6) hf6 hn6 (by kernel_rfl) (by show 6 ≤ 100; decide) (ev_method sl gm evs_nil ⟨rfl, ev_bool, trivial⟩ he7) (by kernel_rfl) (fun N7 s7 hs F => ?_) rfl
  have hs7 := List.Subset.trans hs6 hs
  refine fill_assign (fs := vfs ma mi pa pre bu pt) (no := vno) (o := none) O hcm F hm k0 (loc.mono hs7) (fun k d q => look_app k (hf6 k d q)) (fun k hk => by
    simp only [vno, List.mem_cons, List.not_mem_nil, or_false] at hk
    rcases hk with rfl | rfl | rfl | rfl | rfl <;> with_unfolding_all rfl) (by kernel_rfl) (by show 7 ≤ 100; decide) (ev_method sl gm evs_nil ⟨rfl, ev_bool, trivial⟩ he8) (by kernel_rfl) (fun N8 s8 hs F => ?_) rfl
  have hs8 := List.Subset.trans hs7 hs
  obtain ⟨hx8, hne8, es, nn, hE8, S8⟩ := F
  refine wpAny_execs_nil (hQ m ((dx, dictOf es nn) :: N8) s8 (fun p hp => List.mem_cons_of_mem _ (hs8 (hn0 hp))) S8 (.inst (List.mem_cons_of_mem _ hx8) (List.mem_cons_self ..) (fun k d q => ?_) (fun k hk => ?_)))
  · obtain ⟨v, a, b⟩ := (hE8.get k).1 _ (look_app k (look_app k (hf6 k d q)))
    exact ⟨v, a, (b d rfl).mono (List.subset_cons_self _ _)⟩
  · refine (hE8.get k).2 ?_
    simp only [vno, List.mem_cons, List.not_mem_nil, or_false] at hk
    rcases hk with rfl | rfl | rfl | rfl | rfl <;> with_unfolding_all rfl
end
end Mine
end
end
section
open PySem PySem.W PyProof.Rows PySem.Spec PySem.Calls
set_option maxRecDepth 100000
set_option linter.unusedVariables false
noncomputable section
namespace Mine
local macro_rules | `(tactic| walk_at "lk") => `(tactic| first | with_unfolding_all rfl | assumption | (refine (upd_ne (by decide +kernel)).trans ?_; walk_at "lk"))
local macro_rules | `(tactic| walk_at "leaf") => `(tactic| first | exact ev_str | exact ev_int | exact ev_none | exact ev_bool | exact ev_local (by assumption) (by walk_at "lk") (by kernel_rfl) (by kernel_rfl) | exact ev_B (by assumption) (k_tuple _) Boot.tuple n_tuple (by kernel_rfl) (by kernel_rfl))
section
variable {c : Cx} {m : PySem.Str → Option Value} {news news' : Led} {s s' : Shared} {ρ ρ' : Rho}
theorem ex_unpack_err {es : List Expr} {k : Nat} {tpos pos : Pos} {e : Expr} (h : EV c ρ e none)
    (h1 : swapsWithSole [.Tuple es k tpos] e pos.line c.env = pure false := by rfl) (h2 : swappedStores [.Tuple es k tpos] e c.env = pure none := by rfl) :
    EX1 c ρ (.Assign [.Tuple es k tpos] e pos) .err := by
  intro hc m news s Q E hE S hρ hQ
  exact Assign_Tuple (h.env hc m news s _ _ S hρ fun x s' hf => hQ m x s' (.inl hf)) h1 h2
theorem exi_err (hc : c.cmp = none) {C : Addr} {ss : List Stmt} (h : ∀ x, EX c (upd ρ "self" (.own x C [] vno)) ss .err) : EXI c ρ C ss none := by
  intro m news s x dx Q E hE S hρ hm hlt hlt' hQ
  refine h x hc m _ s Q E hE S (fun y d q => ?_) (fun m' y s' hf => hQ m' y s' (hf.imp (·.sub fun _ hp => List.mem_cons_of_mem _ (List.mem_cons_of_mem _ hp)) (·.sub fun _ hp => List.mem_cons_of_mem _ (List.mem_cons_of_mem _ hp))))
  unfold upd at q
  by_cases hy : y = PySem.Str.ofString "self"
  · rw [if_pos hy] at q; cases q
    exact ⟨.ref x, by rw [hy]; exact hm, .own (List.mem_cons_self ..) (List.mem_cons_of_mem _ (List.mem_cons_self ..)) (fun k d q => by cases q) (fun k _ => rfl)⟩
  · rw [if_neg hy] at q
    obtain ⟨v, a, b⟩ := hρ y d q
    exact ⟨v, a, b.mono (fun _ hp => List.mem_cons_of_mem _ (List.mem_cons_of_mem _ hp))⟩
theorem gm_self_parse (O : c.Ok) (hr : 2 < c.rk) {x : Addr} {ds' : List D} {kds : List (PySem.Str × D)} {r : Option D} (h : FN c.w 2 false 351 (vcls :: ds') kds r) : GM c (.own x 457 [] vno) "parse" ds' kds r :=
  gm_own (gm_inst_cm (p := 353) O h hr (fun q => by cases q) (by simp [vno]) (by kernel_rfl) (by kernel_rfl) (by kernel_rfl) (by kernel_rfl) (by kernel_rfl) (by kernel_rfl) (by kernel_rfl) (rest := [.bool false]) (by kernel_rfl) (by kernel_rfl))
theorem gm_self_kwargs (O : c.Ok) (hr : 2 < c.rk) {x : Addr} {ds' : List D} {kds : List (PySem.Str × D)} {r : Option D} (h : FN c.w 2 false 372 (vcls :: ds') kds r) : GM c (.own x 457 [] vno) "_validate_kwargs" ds' kds r :=
  gm_own (gm_inst_cm (p := 374) O h hr (fun q => by cases q) (by simp [vno]) (by kernel_rfl) (by kernel_rfl) (by kernel_rfl) (by kernel_rfl) (by kernel_rfl) (by kernel_rfl) (by kernel_rfl) (rest := [.bool false]) (by kernel_rfl) (by kernel_rfl))
end
/-- what an __init__ is handed, bound: self ahead -/
theorem binds_self {w : World} {fd : FuncData} {names : List (PySem.Str × NameKind)} {args : List D} {kw : List (PySem.Str × D)} (kds : List (PySem.Str × D))
    (h : ∀ (news : Led) x vs kvs (s : Shared), (KF w).In s.heap → DAll news vs args → KAll news kvs kw → ∃ binds, BindsTo s fd ⟨.ref x :: vs, kvs⟩ (("self", .ref x) :: binds) ∧ KAll news binds kds)
    (hl : (((("self" : PySem.Str), dn) :: kds).all fun y => names.lookup y.1 == some .local) = true) (hself : (kds.reverse.lookup ("self" : PySem.Str)).isNone = true) :
    ∀ (news : Led) x vs kvs (s : Shared), (KF w).In s.heap → DAll news vs args → KAll news kvs kw → ∃ binds, BindsTo s fd ⟨.ref x :: vs, kvs⟩ binds ∧ (∀ y ∈ binds, names.lookup y.1 = some .local) ∧ Loc (rho kds) (fun y => binds.reverse.lookup y) news ∧ binds.reverse.lookup ("self" : PySem.Str) = some (.ref x) := by
  intro news x vs kvs s X a b
  obtain ⟨binds, h1, h2⟩ := h news x vs kvs s X a b
  refine ⟨_, h1, ?_, ?_, ?_⟩
  · have : ∀ {l : List (PySem.Str × Value)} {k : List (PySem.Str × D)}, KAll news l k → (k.all fun y => names.lookup y.1 == some .local) = true → ∀ y ∈ l, names.lookup y.1 = some .local := by
      intro l
      induction l with
      | nil => intro k _ _ y hy; cases hy
      | cons p l ih =>
        intro k hk hq y hy
        match k, hk with
        | (k', d') :: r', ⟨e, h, t⟩ =>
          rw [List.all_cons, Bool.and_eq_true] at hq
          rcases List.mem_cons.mp hy with rfl | hy
          · rw [e]; exact beq_iff_eq.mp hq.1
          · exact ih t hq.2 y hy
    rw [List.all_cons, Bool.and_eq_true] at hl
    intro y hy
    rcases List.mem_cons.mp hy with rfl | hy
    · exact beq_iff_eq.mp hl.1
    · exact this h2 hl.2 y hy
  · intro y d q
    obtain ⟨v, a, b⟩ := loc_of h2 y d q
    refine ⟨v, ?_, b⟩
    rw [List.reverse_cons]
    exact look_app y a
  · rw [List.reverse_cons]
    have hn : binds.reverse.lookup ("self" : PySem.Str) = none := by
      have : ∀ {l : List (PySem.Str × Value)} {k : List (PySem.Str × D)}, KAll news l k → (k.lookup ("self" : PySem.Str)).isNone = true → l.lookup ("self" : PySem.Str) = none := by
        intro l
        induction l with
        | nil => intro k _ _; rfl
        | cons p l ih =>
          intro k hk hq
          match k, hk with
          | (k', d') :: r', ⟨e, h, t⟩ =>
            obtain ⟨k2, v2⟩ := p
            have e : k2 = k' := e
            subst e
            rw [List.lookup_cons] at hq ⊢
            cases hb : (PySem.Str.ofString "self" == k2)
            · rw [hb] at hq; exact ih t hq
            · rw [hb] at hq; cases hq
      exact this h2.rev hself
    have : ∀ {a : List (PySem.Str × Value)}, a.lookup ("self" : PySem.Str) = none → (a ++ [(("self" : PySem.Str), Value.ref x)]).lookup ("self" : PySem.Str) = some (.ref x) := by
      intro a
      induction a with
      | nil => intro _; rfl
      | cons p a ih =>
        intro h
        obtain ⟨k2, v2⟩ := p
        rw [List.cons_append, List.lookup_cons]
        rw [List.lookup_cons] at h
        cases hb : (PySem.Str.ofString "self" == k2)
        · rw [hb] at h; exact ih h
        · rw [hb] at h; cases h
    exact this hn
def kdsV (x : D) (ma mi pa pre bu pt : D) : List (PySem.Str × D) := [("version_string", x), ("major", ma), ("minor", mi), ("patch", pa), ("prerelease", pre), ("build", bu), ("partial", pt)]
/-- Version(text) and Version(text, partial=..) -/
inductive VForm (p : Bool) : List (PySem.Str × D) → Prop
  | kw : VForm p [("partial", db p)]
  | dflt (h : p = false) : VForm p []
set_option maxHeartbeats 8000000 in
theorem ver_text (w : World) {p : Bool} {x : PySem.Str} {kw : List (PySem.Str × D)} (hf : VForm p kw) {ma mi pa pre bu : Dat} {lp lb : List PySem.Str} (h : FN w 2 false 351 [vcls, ds x, db p] [] (some (dt [ma, mi, pa, pre, bu])))
    (h4 : IdsD pre lp) (h5 : IdsD bu lb) (o4 : ∀ y ∈ lp, IdOk y) (o5 : ∀ y ∈ lb, IdOk y) (l4 : lp.length ≤ 1000) (l5 : lb.length ≤ 1000) :
    CN w 3 true (.ref 457) [ds x] kw (some (verD ma mi pa pre bu (.bool p))) := by
  refine cls_of (fI := 292) (C := 457) (by kernel_rfl) (by kernel_rfl) (by kernel_rfl) (by with_unfolding_all rfl) (by kernel_rfl) (binds_self (kdsV (ds x) dn dn dn dn dn (db p)) (fun news a vs kvs s X ha hb => ?_) (by kernel_rfl) (by kernel_rfl)) (fun mean mg mb base A₀ outer L g₀ os O => ?_) (fun q => by cases q) rfl rfl rfl (by simp)
  · cases hf with
    | kw =>
      obtain ⟨v, rfl, a1⟩ := dall1 ha
      obtain ⟨v', rfl, a2⟩ := kall1 hb
      exact ⟨[("version_string", v), ("major", .none), ("minor", .none), ("patch", .none), ("prerelease", .none), ("build", .none), ("partial", v')], binds_K X rfl (by with_unfolding_all rfl) rfl rfl rfl, rfl, a1, rfl, .dat .none, rfl, .dat .none, rfl, .dat .none, rfl, .dat .none, rfl, .dat .none, rfl, a2, trivial⟩
    | dflt hp =>
      subst hp
      obtain ⟨v, rfl, a1⟩ := dall1 ha
      obtain rfl := kall0 hb
      exact ⟨[("version_string", v), ("major", .none), ("minor", .none), ("patch", .none), ("prerelease", .none), ("build", .none), ("partial", .bool false)], binds_K X rfl (by with_unfolding_all rfl) rfl rfl rfl, rfl, a1, rfl, .dat .none, rfl, .dat .none, rfl, .dat .none, rfl, .dat .none, rfl, .dat .none, rfl, .dat (.bool false), trivial⟩
  · refine exi_of rfl fun self dx N0 hlt hlt' => ?_
    refine ix_cons rfl (ex_assign O (ev_compare (d₁ := ds x) (by walk_at "leaf") (by walk_at "leaf") op_isnot_none) (by kernel_rfl)) ?_
    refine ix_cons rfl (ex_assign O (ev_not (ev_andL (ev_compare (d₁ := dn) (by walk_at "leaf") (by walk_at "leaf") op_is_none) (ev_andL (ev_compare (d₁ := dn) (by walk_at "leaf") (by walk_at "leaf") op_is_none) (ev_andL (ev_compare (d₁ := dn) (by walk_at "leaf") (by walk_at "leaf") op_is_none) (ev_andL (ev_compare (d₁ := dn) (by walk_at "leaf") (by walk_at "leaf") op_is_none) (ev_bool_one (ev_compare (d₁ := dn) (by walk_at "leaf") (by walk_at "leaf") op_is_none)))))) (ob_dat (x := .bool _) trivial)) (by kernel_rfl)) ?_
    refine ix_cons rfl (ex_if (et_not (et_value (ev_binop (by walk_at "leaf") (by walk_at "leaf") op_xor) (ob_dat (x := .bool _) trivial))) (fun q => by cases q) (fun _ => ex_nil)) ?_
    refine ix_cons (ρ' := updAll (upd (upd (upd (rho (kdsV (ds x) dn dn dn dn dn (db p))) (Str.ofString "self") (D.own self 457 [] vno)) (Str.ofString "has_text") (db true)) (Str.ofString "has_parts") (db false)) ["major", "minor", "patch", "prerelease", "build"] [ma, mi, pa, pre, bu]) rfl
      (ex_if (et_value (by walk_at "leaf") (ob_dat (x := .bool _) trivial)) (fun _ => ex_one (ex_unpack O (ev_method (by walk_at "leaf") (gm_self_parse O (by show 2 < 3; decide) h) (evs_cons (by walk_at "leaf") (evs_cons (by walk_at "leaf") evs_nil)) kws_nil)
        ⟨⟨_, rfl⟩, by kernel_rfl, ⟨_, rfl⟩, by kernel_rfl, ⟨_, rfl⟩, by kernel_rfl, ⟨_, rfl⟩, by kernel_rfl, ⟨_, rfl⟩, by kernel_rfl, trivial⟩ rfl)) (fun q => by cases q)) ?_
    exact ix_fill O rfl (by show 1 < 3; decide) rfl hlt hlt' h4 h5 o4 o5 l4 l5 (by walk_at "lk") (by walk_at "lk") (by walk_at "lk") (by walk_at "lk") (by walk_at "lk") (by walk_at "lk") (by walk_at "lk") (by kernel_rfl) (by kernel_rfl) (by kernel_rfl) (by kernel_rfl) (by kernel_rfl) (by kernel_rfl) (by kernel_rfl) (by rfl) (by rfl)
set_option maxHeartbeats 8000000 in
theorem ver_err (w : World) {p : Bool} {x : PySem.Str} {kw : List (PySem.Str × D)} (hf : VForm p kw) (h : FN w 2 false 351 [vcls, ds x, db p] [] none) :
    CN w 3 false (.ref 457) [ds x] kw none := by
  refine cls_of (fI := 292) (C := 457) (by kernel_rfl) (by kernel_rfl) (by kernel_rfl) (by with_unfolding_all rfl) (by kernel_rfl) (binds_self (kdsV (ds x) dn dn dn dn dn (db p)) (fun news a vs kvs s X ha hb => ?_) (by kernel_rfl) (by kernel_rfl)) (fun mean mg mb base A₀ outer L g₀ os O => ?_) (fun q => rfl) rfl rfl rfl (by simp)
  · cases hf with
    | kw =>
      obtain ⟨v, rfl, a1⟩ := dall1 ha
      obtain ⟨v', rfl, a2⟩ := kall1 hb
      exact ⟨[("version_string", v), ("major", .none), ("minor", .none), ("patch", .none), ("prerelease", .none), ("build", .none), ("partial", v')], binds_K X rfl (by with_unfolding_all rfl) rfl rfl rfl, rfl, a1, rfl, .dat .none, rfl, .dat .none, rfl, .dat .none, rfl, .dat .none, rfl, .dat .none, rfl, a2, trivial⟩
    | dflt hp =>
      subst hp
      obtain ⟨v, rfl, a1⟩ := dall1 ha
      obtain rfl := kall0 hb
      exact ⟨[("version_string", v), ("major", .none), ("minor", .none), ("patch", .none), ("prerelease", .none), ("build", .none), ("partial", .bool false)], binds_K X rfl (by with_unfolding_all rfl) rfl rfl rfl, rfl, a1, rfl, .dat .none, rfl, .dat .none, rfl, .dat .none, rfl, .dat .none, rfl, .dat .none, rfl, .dat (.bool false), trivial⟩
  · refine exi_err rfl fun self => ?_
    refine ex_cons (ex_assign O (ev_compare (d₁ := ds x) (by walk_at "leaf") (by walk_at "leaf") op_isnot_none) (by kernel_rfl)) ?_
    refine ex_cons (ex_assign O (ev_not (ev_andL (ev_compare (d₁ := dn) (by walk_at "leaf") (by walk_at "leaf") op_is_none) (ev_andL (ev_compare (d₁ := dn) (by walk_at "leaf") (by walk_at "leaf") op_is_none) (ev_andL (ev_compare (d₁ := dn) (by walk_at "leaf") (by walk_at "leaf") op_is_none) (ev_andL (ev_compare (d₁ := dn) (by walk_at "leaf") (by walk_at "leaf") op_is_none) (ev_bool_one (ev_compare (d₁ := dn) (by walk_at "leaf") (by walk_at "leaf") op_is_none)))))) (ob_dat (x := .bool _) trivial)) (by kernel_rfl)) ?_
    refine ex_cons (ex_if (et_not (et_value (ev_binop (by walk_at "leaf") (by walk_at "leaf") op_xor) (ob_dat (x := .bool _) trivial))) (fun q => by cases q) (fun _ => ex_nil)) ?_
    exact ex_err (ex_if (et_value (by walk_at "leaf") (ob_dat (x := .bool _) trivial)) (fun _ => ex_one (ex_unpack_err (ev_method (by walk_at "leaf") (gm_self_parse O (by show 2 < 3; decide) h) (evs_cons (by walk_at "leaf") (evs_cons (by walk_at "leaf") evs_nil)) kws_nil))) (fun q => by cases q))
set_option maxHeartbeats 8000000 in
theorem ver_kw (w : World) {n : Int} {mi pa pre bu : Dat} {lp lb : List PySem.Str} (h0 : 0 ≤ n) (h1 : n < 10 ^ 400) (h2 : NumD mi) (h3 : NumD pa) (h4 : IdsD pre lp) (h5 : IdsD bu lb) (i4 : IdsOk lp) (i5 : IdsOk lb) (a4 : lp.all (okI false) = true) (a5 : lb.all (okI true) = true)
    (o4 : ∀ y ∈ lp, IdOk y) (o5 : ∀ y ∈ lb, IdOk y) :
    CN w 3 true (.ref 457) [] [("major", di n), ("minor", .dat mi), ("patch", .dat pa), ("prerelease", .dat pre), ("build", .dat bu), ("partial", db true)] (some (verD (.int n) mi pa (.tuple (lp.map .str)) bu (.bool true))) := by
  refine cls_of (fI := 292) (C := 457) (by kernel_rfl) (by kernel_rfl) (by kernel_rfl) (by with_unfolding_all rfl) (by kernel_rfl) (binds_self (kdsV dn (di n) (.dat mi) (.dat pa) (.dat pre) (.dat bu) (db true)) (fun news a vs kvs s X ha hb => ?_) (by kernel_rfl) (by kernel_rfl)) (fun mean mg mb base A₀ outer L g₀ os O => ?_) (fun q => by cases q) rfl rfl rfl (by simp)
  · obtain rfl := dall0 ha
    obtain ⟨v1, us, rfl, a1, hb⟩ := kallS hb
    obtain ⟨v2, us, rfl, a2, hb⟩ := kallS hb
    obtain ⟨v3, us, rfl, a3, hb⟩ := kallS hb
    obtain ⟨v4, us, rfl, a4, hb⟩ := kallS hb
    obtain ⟨v5, us, rfl, a5, hb⟩ := kallS hb
    obtain ⟨v6, rfl, a6⟩ := kall1 hb
    exact ⟨[("version_string", .none), ("major", v1), ("minor", v2), ("patch", v3), ("prerelease", v4), ("build", v5), ("partial", v6)], binds_K X rfl (by with_unfolding_all rfl) rfl rfl rfl, rfl, .dat .none, rfl, a1, rfl, a2, rfl, a3, rfl, a4, rfl, a5, rfl, a6, trivial⟩
  · refine exi_of rfl fun self dx N0 hlt hlt' => ?_
    refine ix_cons rfl (ex_assign O (ev_compare (d₁ := dn) (by walk_at "leaf") (by walk_at "leaf") op_isnot_none) (by kernel_rfl)) ?_
    refine ix_cons rfl (ex_assign (d := db true) O (ev_not (d₁ := db false) (b := false) (ev_and (d := db false) (b := false) (ev_compare (d₁ := di n) (by walk_at "leaf") (by walk_at "leaf") op_is_none) (ob_dat (x := .bool false) trivial) (fun q => by cases q) (fun _ => rfl)) (ob_dat (x := .bool false) trivial)) (by kernel_rfl)) ?_
    refine ix_cons rfl (ex_if (et_not (et_value (ev_binop (by walk_at "leaf") (by walk_at "leaf") op_xor) (ob_dat (x := .bool _) trivial))) (fun q => by cases q) (fun _ => ex_nil)) ?_
    refine ix_cons (ρ' := upd (upd (upd (upd (rho (kdsV dn (di n) (.dat mi) (.dat pa) (.dat pre) (.dat bu) (db true))) (Str.ofString "self") (D.own self 457 [] vno)) (Str.ofString "has_text") (db false)) (Str.ofString "has_parts") (db true)) "prerelease" (dt (lp.map .str))) rfl
      (ex_if (et_value (by walk_at "leaf") (ob_dat (x := .bool false) trivial)) (fun q => by cases q) (fun _ => ?_)) ?_
    · refine ex_consU (ex_assign O (ev_call (by walk_at "leaf") (evs_cons (ev_orL h4 (by have := i4.many; omega) (by walk_at "leaf")) evs_nil) kws_nil fun _ => cb_tuple_tuple.callable (fun _ q => by cases q)) (by kernel_rfl)) ?_
      refine ex_cons (ex_if (et_not (et_value (by walk_at "leaf") (ob_dat (x := .bool true) trivial))) (fun q => by cases q) (fun _ => ex_nil)) ?_
      exact ex_one (ex_expr (ev_method (by walk_at "leaf") (gm_self_kwargs O (by show 2 < 3; decide) (fn_kwargs w h0 h1 h2 h3 h5 i4 i5 a4 a5)) (evs_cons (by walk_at "leaf") (evs_cons (by walk_at "leaf") (evs_cons (by walk_at "leaf") (evs_cons (by walk_at "leaf") (evs_cons (by walk_at "leaf") (evs_cons (by walk_at "leaf") evs_nil)))))) kws_nil))
    exact ix_fill O rfl (by show 1 < 3; decide) rfl hlt hlt' (.tup (l := lp)) h5 o4 o5 i4.many i5.many (by walk_at "lk") (by walk_at "lk") (by walk_at "lk") (by walk_at "lk") (by walk_at "lk") (by walk_at "lk") (by walk_at "lk") (by kernel_rfl) (by kernel_rfl) (by kernel_rfl) (by kernel_rfl) (by kernel_rfl) (by kernel_rfl) (by kernel_rfl) (by rfl) (by rfl)
end Mine
end
end
section
open PySem PySem.W PyProof.Rows PySem.Spec PySem.Calls
set_option maxRecDepth 100000
set_option linter.unusedVariables false
set_option linter.unusedSimpArgs false
namespace Mine
open Builtin Builtin.Str PySem.StrLaws
/-! texts as lists of signs -/
def S (l : List Nat) : PySem.Str := ⟨l.toArray⟩
theorem S_list (l : List Nat) : (S l).cps.toList = l := rfl
theorem S_of (x : PySem.Str) : S x.cps.toList = x := by cases x; rfl
theorem S_inj {a b : List Nat} : S a = S b ↔ a = b := ⟨fun h => by have := congrArg (fun x : PySem.Str => x.cps.toList) h; exact this, fun h => by rw [h]⟩
theorem S_len (l : List Nat) : (S l).length = l.length := by show l.toArray.size = _; rw [List.size_toArray]
theorem S_app (a b : List Nat) : S a ++ S b = S (a ++ b) := PySem.Str.ext' (by rw [PySem.Str.cps_append]; show a.toArray ++ b.toArray = (a ++ b).toArray; simp)
theorem S_beq (a b : List Nat) : (S a == S b) = (a == b) := by
  rw [Bool.eq_iff_iff, beq_iff_eq, beq_iff_eq, S_inj]
theorem sDot : PySem.Str.ofString "." = S [46] := by decide +kernel
theorem sMinus : PySem.Str.ofString "-" = S [45] := by decide +kernel
theorem sPlus : PySem.Str.ofString "+" = S [43] := by decide +kernel
theorem sNil : PySem.Str.ofString "" = S [] := by decide +kernel
theorem sZero : PySem.Str.ofString "0" = S [48] := by decide +kernel
/-! joining -/
def jn (c : Nat) : List (List Nat) → List Nat
  | [] => []
  | [p] => p
  | p :: q :: r => p ++ c :: jn c (q :: r)
theorem join_S (c : Nat) : ∀ ps : List (List Nat), PySem.Str.join (S [c]) (ps.map S) = S (jn c ps)
  | [] => rfl
  | [p] => rfl
  | p :: q :: r => by
    show S p ++ S [c] ++ PySem.Str.join (S [c]) ((q :: r).map S) = _
    rw [join_S c (q :: r), S_app, S_app]
    show S (p ++ [c] ++ jn c (q :: r)) = S (p ++ c :: jn c (q :: r))
    rw [List.append_assoc]; rfl
theorem txt_join (c : Nat) (ps : List (List Nat)) : Txt.join (S [c]) (ps.map S) = S (jn c ps) := (glued_eq_join _ _).trans (join_S c ps)
theorem split_first {c : Nat} {a b a' b' : List Nat} (h : a ++ c :: b = a' ++ c :: b') (ha : c ∉ a) (ha' : c ∉ a') : a = a' ∧ b = b' := by
  induction a generalizing a' with
  | nil =>
    cases a' with
    | nil => exact ⟨rfl, by simpa using h⟩
    | cons x a' => simp at h; exact absurd (List.mem_cons.mpr (.inl h.1)) ha'
  | cons x a ih =>
    cases a' with
    | nil => simp at h; exact absurd (List.mem_cons.mpr (.inl h.1.symm)) ha
    | cons y a' =>
      simp at h
      obtain ⟨e1, e2⟩ := ih h.2 (fun q => ha (List.mem_cons_of_mem _ q)) (fun q => ha' (List.mem_cons_of_mem _ q))
      exact ⟨by rw [h.1, e1], e2⟩
theorem jn_cons (c : Nat) (p : List Nat) {r : List (List Nat)} (h : r ≠ []) : jn c (p :: r) = p ++ c :: jn c r := by
  cases r with
  | nil => exact absurd rfl h
  | cons => rfl
theorem jn_inj {c : Nat} : ∀ {ps qs : List (List Nat)}, ps ≠ [] → qs ≠ [] → (∀ p ∈ ps, c ∉ p) → (∀ p ∈ qs, c ∉ p) → jn c ps = jn c qs → ps = qs
  | [], _, h, _, _, _, _ => absurd rfl h
  | _, [], _, h, _, _, _ => absurd rfl h
  | [p], [q], _, _, _, _, h => by
    have h : p = q := h
    rw [h]
  | [p], q :: q' :: r, _, _, hp, hq, h => by
    have h : p = q ++ c :: jn c (q' :: r) := h
    exact absurd (by rw [h]; simp) (hp p (List.mem_cons_self ..))
  | p :: p' :: r, [q], _, _, hp, hq, h => by
    have h : p ++ c :: jn c (p' :: r) = q := h
    exact absurd (by rw [← h]; simp) (hq q (List.mem_cons_self ..))
  | p :: p' :: r, q :: q' :: r', _, _, hp, hq, h => by
    have h : p ++ c :: jn c (p' :: r) = q ++ c :: jn c (q' :: r') := h
    obtain ⟨e1, e2⟩ := split_first h (hp p (List.mem_cons_self ..)) (hq q (List.mem_cons_self ..))
    rw [e1, jn_inj (by simp) (by simp) (fun x hx => hp x (List.mem_cons_of_mem _ hx)) (fun x hx => hq x (List.mem_cons_of_mem _ hx)) e2]
theorem split_ne' (x y : PySem.Str) : Txt.split x y ≠ [] := by
  unfold Txt.split
  split
  · simp
  · split
    · simp
    · rw [partsBetween_eq]
      obtain ⟨p, r, e⟩ := partsFrom_ne x y.length 0 (occurrences x y 0 x.length (x.length + 1))
      rw [e]; simp
theorem as_S : ∀ l : List PySem.Str, ∃ qs : List (List Nat), l = qs.map S
  | [] => ⟨[], rfl⟩
  | x :: l => by
    obtain ⟨qs, h⟩ := as_S l
    exact ⟨x.cps.toList :: qs, by rw [h, List.map_cons, S_of]⟩
/-- the pieces of a split -/
theorem split_S {c : Nat} {ps : List (List Nat)} (hne : ps ≠ []) (hf : ∀ p ∈ ps, c ∉ p) : Txt.split (S (jn c ps)) (S [c]) = ps.map S := by
  obtain ⟨qs, hqs⟩ := as_S (Txt.split (S (jn c ps)) (S [c]))
  have h1 := join_split (S (jn c ps)) (S [c])
  rw [hqs, join_S] at h1
  have h2 := split_free (S (jn c ps)) c
  have h3 := split_ne' (S (jn c ps)) (S [c])
  rw [hqs]
  rw [show Txt.split (S (jn c ps)) ⟨#[c]⟩ = qs.map S from hqs] at h2
  rw [hqs] at h3
  rw [jn_inj (c := c) (ps := ps) (qs := qs) hne (fun q => h3 (by rw [q]; rfl)) hf (fun p hp => h2 (S p) (List.mem_map_of_mem hp)) (S_inj.mp h1).symm]
/-- every text is the join of its pieces -/
theorem pieces (c : Nat) (l : List Nat) : ∃ ps, ps ≠ [] ∧ (∀ p ∈ ps, c ∉ p) ∧ l = jn c ps ∧ Txt.split (S l) (S [c]) = ps.map S := by
  obtain ⟨qs, hqs⟩ := as_S (Txt.split (S l) (S [c]))
  have h1 := join_split (S l) (S [c])
  rw [hqs, join_S] at h1
  have h2 := split_free (S l) c
  rw [show Txt.split (S l) ⟨#[c]⟩ = qs.map S from hqs] at h2
  have h3 := split_ne' (S l) (S [c])
  rw [hqs] at h3
  exact ⟨qs, fun q => h3 (by rw [q]; rfl), fun p hp => h2 (S p) (List.mem_map_of_mem hp), (S_inj.mp h1).symm, hqs⟩
/-! find and cuts -/
theorem at_one (x : PySem.Str) (c i : Nat) : At x (S [c]) x.length i ↔ x.cps.toList[i]? = some c := subAt_one x c i
theorem find_none {l : List Nat} {c : Nat} (h : c ∉ l) : Txt.find (S l) (S [c]) = -1 := by
  unfold Txt.find
  rcases occ_head (S l) (S [c]) 1 (Nat.le_refl _) with ⟨e, _⟩ | ⟨i, r, e, hA, _⟩
  · rw [e]
  · have := (at_one _ _ _).mp hA
    exact absurd (List.mem_of_getElem? this) h
theorem find_some {a b : List Nat} {c : Nat} (h : c ∉ a) : Txt.find (S (a ++ c :: b)) (S [c]) = (a.length : Int) := by
  unfold Txt.find
  rcases occ_head (S (a ++ c :: b)) (S [c]) 1 (Nat.le_refl _) with ⟨e, hn⟩ | ⟨i, r, e, hA, hn⟩
  · exfalso
    refine hn a.length ((at_one _ _ _).mpr ?_)
    show (a ++ c :: b)[a.length]? = some c
    simp
  · rw [e]
    have h1 : (a ++ c :: b)[i]? = some c := (at_one _ _ _).mp hA
    have : i = a.length := by
      rcases Nat.lt_trichotomy i a.length with q | q | q
      · rw [List.getElem?_append_left q] at h1
        exact absurd (List.mem_of_getElem? h1) h
      · exact q
      · exfalso
        refine hn a.length q ((at_one _ _ _).mpr ?_)
        show (a ++ c :: b)[a.length]? = some c
        simp
    rw [this]
theorem cut_first {c : Nat} : ∀ {l : List Nat}, c ∈ l → ∃ a b, l = a ++ c :: b ∧ c ∉ a
  | x :: l, h => by
    by_cases q : x = c
    · subst q; exact ⟨[], l, rfl, by simp⟩
    · obtain ⟨a, b, e, hn⟩ := cut_first (l := l) (by rcases List.mem_cons.mp h with z | z; exact absurd z.symm q; exact z)
      exact ⟨x :: a, b, by rw [e]; rfl, fun z => by rcases List.mem_cons.mp z with z | z; exact q z.symm; exact hn z⟩
theorem slice_from {a b : List Nat} : Txt.slice (S (a ++ b)) (some (a.length : Int)) none = S b := by
  have h := sliceText_from (x := S (a ++ b)) (i := (a.length : Int)) ⟨by omega, by rw [S_list, List.length_append]; omega⟩
  refine Eq.trans (show Txt.slice (S (a ++ b)) (some (a.length : Int)) none = sliceText (S (a ++ b)) (some (a.length : Int)) none from rfl) (h.trans ?_)
  rw [S_list]
  show S _ = S b
  rw [S_inj]
  have e1 : ((a.length : Nat) : Int).toNat = a.length := by omega
  rw [e1, List.drop_left, List.take_of_length_le]
  rw [List.length_append]; omega
theorem slice_to {a b : List Nat} : Txt.slice (S (a ++ b)) none (some (a.length : Int)) = S a := by
  have h := sliceText_to (x := S (a ++ b)) (j := (a.length : Int)) ⟨by omega, by rw [S_list, List.length_append]; omega⟩
  refine Eq.trans (show Txt.slice (S (a ++ b)) none (some (a.length : Int)) = sliceText (S (a ++ b)) none (some (a.length : Int)) from rfl) (h.trans ?_)
  rw [S_list]
  show S _ = S a
  rw [S_inj]
  have e1 : ((a.length : Int) - 0).toNat = a.length := by omega
  rw [List.drop_zero, e1, List.take_left]
end Mine
end
section
open PySem PySem.W PyProof.Rows PySem.Spec PySem.Calls
set_option maxRecDepth 100000
set_option linter.unusedVariables false
set_option linter.unusedSimpArgs false
namespace Mine
/-! the shape of a text that a pattern takes -/
def opt (c : Nat) : Option (List Nat) → List Nat
  | none => []
  | some p => c :: p
structure Form (l : List Nat) (ds : List (List Nat)) (op ob : Option (List Nat)) : Prop where
  eq : l = jn 46 ds ++ (opt 45 op ++ opt 43 ob)
  ne : ds ≠ []
  le : ds.length ≤ 3
  num : ∀ d ∈ ds, d ≠ [] ∧ ∀ c ∈ d, dg c = true
  pre : ∀ p, op = some p → ∀ c ∈ p, cl c = true
  bld : ∀ p, ob = some p → ∀ c ∈ p, cl c = true
def mO (a q : Nat) (o : Option (List Nat)) (g : G) : G := match o with
  | none => g
  | some p => ext (ext g a (q + 1)) (a + 1) (q + 1 + p.length)
def gN : List (List Nat) → G
  | [d0] => [some 0, some d0.length]
  | [d0, d1] => mO 2 d0.length (some d1) [some 0, some d0.length]
  | [d0, d1, d2] => mO 4 (d0.length + 1 + d1.length) (some d2) (mO 2 d0.length (some d1) [some 0, some d0.length])
  | _ => []
def gOf (ds : List (List Nat)) (op ob : Option (List Nat)) : G := mO 8 ((jn 46 ds).length + (opt 45 op).length) ob (mO 6 (jn 46 ds).length op (gN ds))
/-- nothing, or a sign that does not pass -/
def Ends (f : Nat → Bool) (r : List Nat) : Prop := ∀ c t, r = c :: t → f c = false
theorem tw_app {f : Nat → Bool} {r : List Nat} (hr : Ends f r) : ∀ {p : List Nat}, (∀ c ∈ p, f c = true) → (p ++ r).takeWhile f = p
  | [], _ => by
    cases r with
    | nil => rfl
    | cons c t => rw [List.nil_append, List.takeWhile_cons, hr c t rfl]; rfl
  | c :: p, h => by
    rw [List.cons_append, List.takeWhile_cons, if_pos (h c (List.mem_cons_self ..)), tw_app hr fun d hd => h d (List.mem_cons_of_mem _ hd)]
theorem tw_cut (f : Nat → Bool) : ∀ l : List Nat, ∃ p r, l = p ++ r ∧ (∀ c ∈ p, f c = true) ∧ Ends f r ∧ l.takeWhile f = p ∧ l.drop (l.takeWhile f).length = r
  | [] => ⟨[], [], rfl, (fun _ h => by cases h), (fun _ _ h => by cases h), rfl, rfl⟩
  | c :: l => by
    cases hc : f c with
    | false => exact ⟨[], c :: l, rfl, (fun _ h => by cases h), (fun d t h => by cases h; exact hc), by rw [List.takeWhile_cons, hc]; rfl, by rw [List.takeWhile_cons, hc]; rfl⟩
    | true =>
      obtain ⟨p, r, e1, e2, e3, e4, e5⟩ := tw_cut f l
      refine ⟨c :: p, r, by rw [e1]; rfl, fun d hd => ?_, e3, by rw [List.takeWhile_cons, if_pos hc, e4], by rw [List.takeWhile_cons, if_pos hc]; exact e5⟩
      rcases List.mem_cons.mp hd with rfl | hd
      · exact hc
      · exact e2 d hd
section
variable {ch a least : Nat} {f : Nat → Bool} {N N' : Nat → List Nat → G → Option G} {q : Nat} {suf : List Nat} {g g' : G}
theorem body_fwd {p r : List Nat} (hp : ∀ c ∈ p, f c = true) (hr : Ends f r) (hl : least ≤ p.length) : sBody ch a least f N q (ch :: (p ++ r)) g = N (q + 1 + p.length) r (mO a q (some p) g) := by
  unfold sBody
  simp only [tw_app hr hp]
  rw [if_pos ⟨trivial, hl⟩, List.drop_left]
  rfl
theorem body_bwd (h : sBody ch a least f N q suf g = some g') : ∃ p r, suf = ch :: (p ++ r) ∧ (∀ c ∈ p, f c = true) ∧ Ends f r ∧ least ≤ p.length ∧ N (q + 1 + p.length) r (mO a q (some p) g) = some g' := by
  cases suf with
  | nil => cases h
  | cons c rest =>
    obtain ⟨p, r, e1, e2, e3, e4, e5⟩ := tw_cut f rest
    rw [e4] at e5
    unfold sBody at h
    simp only [e4, e5] at h
    by_cases hc : c = ch ∧ least ≤ p.length
    · rw [if_pos hc] at h
      exact ⟨p, r, by rw [hc.1, e1], e2, e3, hc.2, h⟩
    · rw [if_neg hc] at h; cases h
theorem grp_skip (h : ∀ c t, suf = c :: t → c ≠ ch) : sGrp ch a least f N N' q suf g = N' q suf g := by
  cases suf with
  | nil => rfl
  | cons c t => exact if_neg (h c t rfl)
theorem grp_in {p r : List Nat} (hp : ∀ c ∈ p, f c = true) (hr : Ends f r) (hl : least ≤ p.length) : sGrp ch a least f N N' q (ch :: (p ++ r)) g = N (q + 1 + p.length) r (mO a q (some p) g) :=
  (if_pos rfl).trans (body_fwd hp hr hl)
theorem grp_bwd (h : sGrp ch a least f N N' q suf g = some g') : ((∀ c t, suf = c :: t → c ≠ ch) ∧ N' q suf g = some g') ∨ ∃ p r, suf = ch :: (p ++ r) ∧ (∀ c ∈ p, f c = true) ∧ Ends f r ∧ least ≤ p.length ∧ N (q + 1 + p.length) r (mO a q (some p) g) = some g' := by
  cases suf with
  | nil => exact .inl ⟨(fun _ _ q => by cases q), h⟩
  | cons c t =>
    by_cases hc : c = ch
    · have h : sBody ch a least f N q (c :: t) g = some g' := (if_pos hc).symm.trans h
      exact .inr (body_bwd h)
    · exact .inl ⟨fun c' t' e => by cases e; exact hc, (if_neg hc).symm.trans h⟩
theorem end_bwd (h : sEnd q suf g = some g') : suf = [] ∧ g' = g := by
  cases suf with
  | nil => cases h; exact ⟨rfl, rfl⟩
  | cons => cases h
end
theorem ends_cl_bld (ob : Option (List Nat)) : Ends cl (opt 43 ob) := fun c t h => by
  cases ob with
  | none => cases h
  | some p => cases h; decide
theorem ends_dg_tail (op ob : Option (List Nat)) : Ends dg (opt 45 op ++ opt 43 ob) := fun c t h => by
  cases op with
  | none =>
    cases ob with
    | none => cases h
    | some p => cases h; decide
  | some p => cases h; decide
theorem head_tail (op ob : Option (List Nat)) : ∀ c t, opt 45 op ++ opt 43 ob = c :: t → c ≠ 46 := fun c t h => by
  cases op with
  | none =>
    cases ob with
    | none => cases h
    | some p => cases h; decide
  | some p => cases h; decide
theorem head_bld (ob : Option (List Nat)) : ∀ c t, opt 43 ob = c :: t → c ≠ 45 := fun c t h => by
  cases ob with
  | none => cases h
  | some p => cases h; decide
/-- a tail that the pattern p takes: 4 takes bare ones too -/
structure Tail (least : Nat) (op ob : Option (List Nat)) : Prop where
  pre : ∀ p, op = some p → (∀ c ∈ p, cl c = true) ∧ least ≤ p.length
  bld : ∀ p, ob = some p → (∀ c ∈ p, cl c = true) ∧ least ≤ p.length
theorem bld_fwd {least q : Nat} {ob : Option (List Nat)} {g : G} (h : ∀ p, ob = some p → (∀ c ∈ p, cl c = true) ∧ least ≤ p.length) : sGrp 43 8 least cl sEnd sEnd q (opt 43 ob) g = some (mO 8 q ob g) := by
  cases ob with
  | none => rfl
  | some b =>
    have h := h b rfl
    have e := grp_in (N := sEnd) (N' := sEnd) (a := 8) (ch := 43) (q := q) (g := g) (r := []) h.1 (fun c t h => by cases h) h.2
    rw [List.append_nil] at e
    exact e
theorem bld_bwd {least q : Nat} {suf : List Nat} {g g' : G} (h : sGrp 43 8 least cl sEnd sEnd q suf g = some g') : ∃ ob, suf = opt 43 ob ∧ (∀ p, ob = some p → (∀ c ∈ p, cl c = true) ∧ least ≤ p.length) ∧ g' = mO 8 q ob g := by
  rcases grp_bwd h with ⟨_, h⟩ | ⟨p, r, e, hp, hr, hl, h⟩
  · obtain ⟨rfl, rfl⟩ := end_bwd h
    exact ⟨none, rfl, (fun _ h => by cases h), rfl⟩
  · obtain ⟨rfl, rfl⟩ := end_bwd h
    exact ⟨some p, by rw [e, List.append_nil]; rfl, (fun p' h => by cases h; exact ⟨hp, hl⟩), rfl⟩
theorem tail_fwd {least q : Nat} {op ob : Option (List Nat)} {g : G} (h : Tail least op ob) : sGrp 45 6 least cl (sGrp 43 8 least cl sEnd sEnd) (sGrp 43 8 least cl sEnd sEnd) q (opt 45 op ++ opt 43 ob) g = some (mO 8 (q + (opt 45 op).length) ob (mO 6 q op g)) := by
  cases op with
  | none => exact (grp_skip (fun c t e => head_bld ob c t e)).trans (bld_fwd h.bld)
  | some p =>
    have h1 := h.pre p rfl
    refine (grp_in h1.1 (ends_cl_bld ob) h1.2).trans ((bld_fwd h.bld).trans ?_)
    show some (mO 8 (q + 1 + p.length) ob _) = some (mO 8 (q + (45 :: p).length) ob _)
    rw [List.length_cons]
    congr 2
    omega
theorem tail_bwd {least q : Nat} {suf : List Nat} {g g' : G} (h : sGrp 45 6 least cl (sGrp 43 8 least cl sEnd sEnd) (sGrp 43 8 least cl sEnd sEnd) q suf g = some g') : ∃ op ob, suf = opt 45 op ++ opt 43 ob ∧ Tail least op ob ∧ g' = mO 8 (q + (opt 45 op).length) ob (mO 6 q op g) := by
  rcases grp_bwd h with ⟨_, h⟩ | ⟨p, r, e, hp, hr, hl, h⟩
  · obtain ⟨ob, e, h1, h2⟩ := bld_bwd h
    exact ⟨none, ob, e, ⟨(fun _ h => by cases h), h1⟩, h2⟩
  · obtain ⟨ob, e2, h1, h2⟩ := bld_bwd h
    refine ⟨some p, ob, by rw [e, e2]; rfl, ⟨(fun p' h => by cases h; exact ⟨hp, hl⟩), h1⟩, ?_⟩
    rw [h2]
    show mO 8 (q + 1 + p.length) ob _ = mO 8 (q + (45 :: p).length) ob _
    rw [List.length_cons]
    congr 1
    omega
def DG (d : List Nat) : Prop := d ≠ [] ∧ ∀ c ∈ d, dg c = true
theorem DG.len {d : List Nat} (h : DG d) : 1 ≤ d.length := by
  cases d with
  | nil => exact absurd rfl h.1
  | cons => simp
theorem dg_of {d : List Nat} (h : ∀ c ∈ d, dg c = true) (hl : 1 ≤ d.length) : DG d := ⟨fun q => by rw [q] at hl; simp at hl, h⟩
/-- the whole text: pattern 4 -/
theorem all4_fwd {l : List Nat} {ds : List (List Nat)} {op ob : Option (List Nat)} (F : Form l ds op ob) : sAll sY4 l = some (gOf ds op ob) := by
  have T : Tail 0 op ob := ⟨fun p h => ⟨F.pre p h, Nat.zero_le _⟩, fun p h => ⟨F.bld p h, Nat.zero_le _⟩⟩
  have e := F.eq
  have num := F.num
  match ds, F.ne, F.le with
  | [d0], _, _ =>
    have h0 : DG d0 := num d0 (List.mem_cons_self ..)
    have e : l = d0 ++ (opt 45 op ++ opt 43 ob) := e
    unfold sAll
    rw [e, tw_app (ends_dg_tail op ob) h0.2, if_pos h0.len, List.drop_left]
    exact (grp_skip (head_tail op ob)).trans (tail_fwd T)
  | [d0, d1], _, _ =>
    have h0 : DG d0 := num d0 (by simp)
    have h1 : DG d1 := num d1 (by simp)
    have e : l = d0 ++ (46 :: (d1 ++ (opt 45 op ++ opt 43 ob))) := by rw [e]; simp [jn]
    unfold sAll
    rw [e, tw_app (fun c t q => by cases q; decide) h0.2, if_pos h0.len, List.drop_left]
    refine (grp_in h1.2 (ends_dg_tail op ob) h1.len).trans ((grp_skip (head_tail op ob)).trans ((tail_fwd T).trans ?_))
    unfold gOf
    have : (jn 46 [d0, d1]).length = d0.length + 1 + d1.length := by simp [jn]; omega
    rw [this]; rfl
  | [d0, d1, d2], _, _ =>
    have h0 : DG d0 := num d0 (by simp)
    have h1 : DG d1 := num d1 (by simp)
    have h2 : DG d2 := num d2 (by simp)
    have e : l = d0 ++ (46 :: (d1 ++ (46 :: (d2 ++ (opt 45 op ++ opt 43 ob))))) := by rw [e]; simp [jn]
    unfold sAll
    rw [e, tw_app (fun c t q => by cases q; decide) h0.2, if_pos h0.len, List.drop_left]
    refine (grp_in h1.2 (fun c t q => by cases q; decide) h1.len).trans ((grp_in h2.2 (ends_dg_tail op ob) h2.len).trans ((tail_fwd T).trans ?_))
    unfold gOf
    have : (jn 46 [d0, d1, d2]).length = d0.length + 1 + d1.length + 1 + d2.length := by simp [jn]; omega
    rw [this]; rfl
  | _ :: _ :: _ :: _ :: _, _, h => exact absurd h (by simp)
theorem all4_bwd {l : List Nat} {g : G} (h : sAll sY4 l = some g) : ∃ ds op ob, Form l ds op ob := by
  obtain ⟨d0, r, e1, e2, e3, e4, e5⟩ := tw_cut dg l
  unfold sAll at h
  rw [e4] at e5
  rw [e4, e5] at h
  by_cases hl : 1 ≤ d0.length
  · rw [if_pos hl] at h
    have h0 := dg_of e2 hl
    rcases grp_bwd h with ⟨_, h⟩ | ⟨d1, r1, f1, f2, f3, f4, h⟩
    · obtain ⟨op, ob, f, T, _⟩ := tail_bwd h
      exact ⟨[d0], op, ob, by rw [e1, f]; rfl, by simp, by simp, fun d hd => by rw [List.mem_singleton.mp hd]; exact h0, fun p q => (T.pre p q).1, fun p q => (T.bld p q).1⟩
    · have h1 := dg_of f2 f4
      rcases grp_bwd h with ⟨_, h⟩ | ⟨d2, r2, k1, k2, k3, k4, h⟩
      · obtain ⟨op, ob, f, T, _⟩ := tail_bwd h
        exact ⟨[d0, d1], op, ob, by rw [e1, f1, f]; simp [jn], by simp, by simp, fun d hd => by
          rcases List.mem_cons.mp hd with rfl | hd
          · exact h0
          · rw [List.mem_singleton.mp hd]; exact h1, fun p q => (T.pre p q).1, fun p q => (T.bld p q).1⟩
      · have h2 := dg_of k2 k4
        obtain ⟨op, ob, f, T, _⟩ := tail_bwd h
        exact ⟨[d0, d1, d2], op, ob, by rw [e1, f1, k1, f]; simp [jn], by simp, by simp, fun d hd => by
          rcases List.mem_cons.mp hd with rfl | hd
          · exact h0
          · rcases List.mem_cons.mp hd with rfl | hd
            · exact h1
            · rw [List.mem_singleton.mp hd]; exact h2, fun p q => (T.pre p q).1, fun p q => (T.bld p q).1⟩
  · rw [if_neg hl] at h; cases h
/-- the whole text: pattern 3 -/
theorem all3_fwd {l : List Nat} {ds : List (List Nat)} {op ob : Option (List Nat)} (F : Form l ds op ob) (h3 : ds.length = 3) (hp : op ≠ some []) (hb : ob ≠ some []) : sAll sY3 l = some (gOf ds op ob) := by
  have ln : ∀ {o : Option (List Nat)}, o ≠ some [] → ∀ p, o = some p → 1 ≤ p.length := fun h p e => by
    cases p with
    | nil => exact absurd e h
    | cons => simp
  have T : Tail 1 op ob := ⟨fun p h => ⟨F.pre p h, ln hp p h⟩, fun p h => ⟨F.bld p h, ln hb p h⟩⟩
  have e := F.eq
  have num := F.num
  match ds, h3 with
  | [d0, d1, d2], _ =>
    have h0 : DG d0 := num d0 (by simp)
    have h1 : DG d1 := num d1 (by simp)
    have h2 : DG d2 := num d2 (by simp)
    have e : l = d0 ++ (46 :: (d1 ++ (46 :: (d2 ++ (opt 45 op ++ opt 43 ob))))) := by rw [e]; simp [jn]
    unfold sAll
    rw [e, tw_app (fun c t q => by cases q; decide) h0.2, if_pos h0.len, List.drop_left]
    refine (body_fwd h1.2 (fun c t q => by cases q; decide) h1.len).trans ((body_fwd h2.2 (ends_dg_tail op ob) h2.len).trans ((tail_fwd T).trans ?_))
    unfold gOf
    have : (jn 46 [d0, d1, d2]).length = d0.length + 1 + d1.length + 1 + d2.length := by simp [jn]; omega
    rw [this]; rfl
theorem all3_bwd {l : List Nat} {g : G} (h : sAll sY3 l = some g) : ∃ ds op ob, Form l ds op ob ∧ ds.length = 3 ∧ op ≠ some [] ∧ ob ≠ some [] := by
  obtain ⟨d0, r, e1, e2, e3, e4, e5⟩ := tw_cut dg l
  unfold sAll at h
  rw [e4] at e5
  rw [e4, e5] at h
  by_cases hl : 1 ≤ d0.length
  · rw [if_pos hl] at h
    have h0 := dg_of e2 hl
    obtain ⟨d1, r1, f1, f2, f3, f4, h⟩ := body_bwd h
    have h1 := dg_of f2 f4
    obtain ⟨d2, r2, k1, k2, k3, k4, h⟩ := body_bwd h
    have h2 := dg_of k2 k4
    obtain ⟨op, ob, f, T, _⟩ := tail_bwd h
    refine ⟨[d0, d1, d2], op, ob, ⟨by rw [e1, f1, k1, f]; simp [jn], by simp, by simp, fun d hd => ?_, fun p q => (T.pre p q).1, fun p q => (T.bld p q).1⟩, rfl, fun q => ?_, fun q => ?_⟩
    · rcases List.mem_cons.mp hd with rfl | hd
      · exact h0
      · rcases List.mem_cons.mp hd with rfl | hd
        · exact h1
        · rw [List.mem_singleton.mp hd]; exact h2
    · have := (T.pre [] q).2; simp at this
    · have := (T.bld [] q).2; simp at this
  · rw [if_neg hl] at h; cases h
/-! a text has one shape -/
theorem jn_mem {c : Nat} : ∀ {ps : List (List Nat)} {k : Nat}, k ∈ jn c ps → k = c ∨ ∃ p ∈ ps, k ∈ p
  | [p], k, h => .inr ⟨p, List.mem_cons_self .., h⟩
  | p :: q :: r, k, h => by
    rcases List.mem_append.mp (show k ∈ p ++ c :: jn c (q :: r) from h) with h | h
    · exact .inr ⟨p, List.mem_cons_self .., h⟩
    · rcases List.mem_cons.mp h with h | h
      · exact .inl h
      · rcases jn_mem h with h | ⟨x, hx, hk⟩
        · exact .inl h
        · exact .inr ⟨x, List.mem_cons_of_mem _ hx, hk⟩
theorem Form.num_no {l : List Nat} {ds : List (List Nat)} {op ob : Option (List Nat)} (F : Form l ds op ob) : 43 ∉ jn 46 ds ∧ 45 ∉ jn 46 ds := by
  constructor <;> intro h <;> rcases jn_mem h with h | ⟨d, hd, hk⟩
  · cases h
  · have := (F.num d hd).2 _ hk; revert this; decide
  · cases h
  · have := (F.num d hd).2 _ hk; revert this; decide
theorem Form.pre_no {l : List Nat} {ds : List (List Nat)} {op ob : Option (List Nat)} (F : Form l ds op ob) : 43 ∉ jn 46 ds ++ opt 45 op := by
  intro h
  rcases List.mem_append.mp h with h | h
  · exact F.num_no.1 h
  · cases op with
    | none => cases h
    | some p =>
      rcases List.mem_cons.mp h with h | h
      · cases h
      · exact cl_43 (F.pre p rfl _ h) rfl
theorem Form.pieces {l : List Nat} {ds : List (List Nat)} {op ob : Option (List Nat)} (F : Form l ds op ob) : ∀ d ∈ ds, 46 ∉ d := fun d hd h => dg_46 ((F.num d hd).2 _ h) rfl
theorem opt_uniq {c : Nat} {a a' : List Nat} {o o' : Option (List Nat)} (h : a ++ opt c o = a' ++ opt c o') (ha : c ∉ a) (ha' : c ∉ a') : a = a' ∧ o = o' := by
  cases o with
  | none =>
    cases o' with
    | none => exact ⟨by simpa [opt] using h, rfl⟩
    | some p => exact absurd (by simp [opt] at h; rw [h]; simp) ha
  | some p =>
    cases o' with
    | none => exact absurd (by simp [opt] at h; rw [← h]; simp) ha'
    | some p' =>
      obtain ⟨e1, e2⟩ := split_first (show a ++ c :: p = a' ++ c :: p' from h) ha ha'
      exact ⟨e1, by rw [e2]⟩
theorem Form.uniq {l : List Nat} {ds ds' : List (List Nat)} {op ob op' ob' : Option (List Nat)} (F : Form l ds op ob) (F' : Form l ds' op' ob') : ds = ds' ∧ op = op' ∧ ob = ob' := by
  have h := F.eq.symm.trans F'.eq
  rw [← List.append_assoc, ← List.append_assoc] at h
  obtain ⟨e1, e2⟩ := opt_uniq h F.pre_no F'.pre_no
  obtain ⟨e3, e4⟩ := opt_uniq e1 F.num_no.2 F'.num_no.2
  exact ⟨jn_inj F.ne F'.ne F.pieces F'.pieces e3, e4, e2⟩
end Mine
end
section
open PySem PySem.W PyProof.Rows PySem.Spec PySem.Calls
set_option maxRecDepth 100000
set_option linter.unusedVariables false
set_option linter.unusedSimpArgs false
noncomputable section
namespace Mine
/-! the groups of a match -/
theorem grp_at {l a y z : List Nat} {sp : List Int} {k b e : Nat} (hl : l = a ++ (y ++ z)) (hb : sp.getD (2 * k) (-1) = ((b : Nat) : Int)) (he : sp.getD (2 * k + 1) (-1) = ((e : Nat) : Int)) (hb' : b = a.length) (he' : e = a.length + y.length) : grpOf (S l) sp k = .str (S y) := by
  unfold grpOf
  rw [hb, he]
  have n1 : decide (((b : Nat) : Int) < 0) = false := decide_eq_false (by omega)
  have n2 : decide (((e : Nat) : Int) < 0) = false := decide_eq_false (by omega)
  rw [n1, n2, if_neg (by decide)]
  have e1 : ((b : Nat) : Int).toNat = b := by omega
  have e2 : ((e : Nat) : Int).toNat = e := by omega
  rw [e1, e2]
  congr 1
  refine PySem.Str.ext' (Array.toList_inj.mp ?_)
  show ((l.toArray).extract b e).toList = y
  rw [Array.toList_extract]
  show List.extract l b e = y
  unfold List.extract
  rw [hl, hb', List.drop_left, he', Nat.add_sub_cancel_left, List.take_left]
theorem grp_no {t : PySem.Str} {sp : List Int} {k : Nat} (hb : sp.getD (2 * k) (-1) = -1) : grpOf t sp k = .none := by
  unfold grpOf
  rw [hb]
  exact if_pos (by simp)
theorem list5 {a b c d e a' b' c' d' e' : Dat} (h1 : a = a') (h2 : b = b') (h3 : c = c') (h4 : d = d') (h5 : e = e') : [a, b, c, d, e] = [a', b', c', d', e'] := by rw [h1, h2, h3, h4, h5]
def oS (o : Option (List Nat)) : Option PySem.Str := o.map S
theorem ok_of {g : G} (h0 : ∀ b e, g.getD 0 none = some b → g.getD 1 none = some e → b ≤ e) (h1 : ∀ b e, g.getD 2 none = some b → g.getD 3 none = some e → b ≤ e) (h2 : ∀ b e, g.getD 4 none = some b → g.getD 5 none = some e → b ≤ e) (h3 : ∀ b e, g.getD 6 none = some b → g.getD 7 none = some e → b ≤ e) (h4 : ∀ b e, g.getD 8 none = some b → g.getD 9 none = some e → b ≤ e) : okG g = true := by
  have one : ∀ (x y : Option Nat), (∀ b e, x = some b → y = some e → b ≤ e) → (match x, y with | some b, some e => decide (b ≤ e) | _, _ => true) = true := fun x y h => by
    cases x <;> cases y <;> first | rfl | exact decide_eq_true (h _ _ rfl rfl)
  unfold okG
  rw [List.all_eq_true]
  intro k hk
  have hk := List.mem_range.mp hk
  match k, hk with
  | 0, _ => exact one _ _ h0
  | 1, _ => exact one _ _ h1
  | 2, _ => exact one _ _ h2
  | 3, _ => exact one _ _ h3
  | 4, _ => exact one _ _ h4
def GrpsOk (l : List Nat) (ds : List (List Nat)) (op ob : Option (List Nat)) : Prop :=
  (List.range 5).map (grpOf (S l) (spansOf (gOf ds op ob))) = [.str (S (ds.getD 0 [])), oD (oS (ds[1]?)), oD (oS (ds[2]?)), oD (oS op), oD (oS ob)] ∧ (spansOf (gOf ds op ob)).length = 10 ∧ okG (gOf ds op ob) = true
theorem grp_100 (d0 : List Nat) : GrpsOk d0 [d0] (none) (none) := by
  have sp : spansOf (gOf [d0] (none) (none)) = [((0 : Nat) : Int), ((d0.length : Nat) : Int), -1, -1, -1, -1, -1, -1, -1, -1] := by simp [spansOf, gOf, gN, mO, ext, jn, opt, List.range_succ] <;> omega
  refine ⟨?_, by rw [sp]; rfl, ?_⟩
  · rw [sp]
    exact list5 (grp_at (a := []) (y := d0) (z := []) (b := 0) (e := d0.length) (by simp) rfl rfl (by simp <;> omega) (by simp <;> omega)) (grp_no rfl) (grp_no rfl) (grp_no rfl) (grp_no rfl)
  · refine ok_of ?_ ?_ ?_ ?_ ?_ <;> (intro u v hu hv; simp [gOf, gN, mO, ext, jn, opt] at hu hv; try omega)

theorem grp_101 (d0 b : List Nat) : GrpsOk (d0 ++ (43 :: b)) [d0] (none) (some b) := by
  have sp : spansOf (gOf [d0] (none) (some b)) = [((0 : Nat) : Int), ((d0.length : Nat) : Int), -1, -1, -1, -1, -1, -1, ((d0.length + 1 : Nat) : Int), ((d0.length + 1 + b.length : Nat) : Int)] := by simp [spansOf, gOf, gN, mO, ext, jn, opt, List.range_succ] <;> omega
  refine ⟨?_, by rw [sp]; rfl, ?_⟩
  · rw [sp]
    exact list5 (grp_at (a := []) (y := d0) (z := (43 :: b)) (b := 0) (e := d0.length) (by simp) rfl rfl (by simp <;> omega) (by simp <;> omega)) (grp_no rfl) (grp_no rfl) (grp_no rfl) (grp_at (a := (d0 ++ [43])) (y := b) (z := []) (b := d0.length + 1) (e := d0.length + 1 + b.length) (by simp) rfl rfl (by simp <;> omega) (by simp <;> omega))
  · refine ok_of ?_ ?_ ?_ ?_ ?_ <;> (intro u v hu hv; simp [gOf, gN, mO, ext, jn, opt] at hu hv; try omega)

theorem grp_110 (d0 p : List Nat) : GrpsOk (d0 ++ (45 :: p)) [d0] (some p) (none) := by
  have sp : spansOf (gOf [d0] (some p) (none)) = [((0 : Nat) : Int), ((d0.length : Nat) : Int), -1, -1, -1, -1, ((d0.length + 1 : Nat) : Int), ((d0.length + 1 + p.length : Nat) : Int), -1, -1] := by simp [spansOf, gOf, gN, mO, ext, jn, opt, List.range_succ] <;> omega
  refine ⟨?_, by rw [sp]; rfl, ?_⟩
  · rw [sp]
    exact list5 (grp_at (a := []) (y := d0) (z := (45 :: p)) (b := 0) (e := d0.length) (by simp) rfl rfl (by simp <;> omega) (by simp <;> omega)) (grp_no rfl) (grp_no rfl) (grp_at (a := (d0 ++ [45])) (y := p) (z := []) (b := d0.length + 1) (e := d0.length + 1 + p.length) (by simp) rfl rfl (by simp <;> omega) (by simp <;> omega)) (grp_no rfl)
  · refine ok_of ?_ ?_ ?_ ?_ ?_ <;> (intro u v hu hv; simp [gOf, gN, mO, ext, jn, opt] at hu hv; try omega)

theorem grp_111 (d0 p b : List Nat) : GrpsOk (d0 ++ (45 :: (p ++ (43 :: b)))) [d0] (some p) (some b) := by
  have sp : spansOf (gOf [d0] (some p) (some b)) = [((0 : Nat) : Int), ((d0.length : Nat) : Int), -1, -1, -1, -1, ((d0.length + 1 : Nat) : Int), ((d0.length + 1 + p.length : Nat) : Int), ((d0.length + 1 + p.length + 1 : Nat) : Int), ((d0.length + 1 + p.length + 1 + b.length : Nat) : Int)] := by simp [spansOf, gOf, gN, mO, ext, jn, opt, List.range_succ] <;> omega
  refine ⟨?_, by rw [sp]; rfl, ?_⟩
  · rw [sp]
    exact list5 (grp_at (a := []) (y := d0) (z := (45 :: (p ++ (43 :: b)))) (b := 0) (e := d0.length) (by simp) rfl rfl (by simp <;> omega) (by simp <;> omega)) (grp_no rfl) (grp_no rfl) (grp_at (a := (d0 ++ [45])) (y := p) (z := (43 :: b)) (b := d0.length + 1) (e := d0.length + 1 + p.length) (by simp) rfl rfl (by simp <;> omega) (by simp <;> omega)) (grp_at (a := (d0 ++ (45 :: (p ++ [43])))) (y := b) (z := []) (b := d0.length + 1 + p.length + 1) (e := d0.length + 1 + p.length + 1 + b.length) (by simp) rfl rfl (by simp <;> omega) (by simp <;> omega))
  · refine ok_of ?_ ?_ ?_ ?_ ?_ <;> (intro u v hu hv; simp [gOf, gN, mO, ext, jn, opt] at hu hv; try omega)

theorem grp_200 (d0 d1 : List Nat) : GrpsOk (d0 ++ (46 :: d1)) [d0, d1] (none) (none) := by
  have sp : spansOf (gOf [d0, d1] (none) (none)) = [((0 : Nat) : Int), ((d0.length : Nat) : Int), ((d0.length + 1 : Nat) : Int), ((d0.length + 1 + d1.length : Nat) : Int), -1, -1, -1, -1, -1, -1] := by simp [spansOf, gOf, gN, mO, ext, jn, opt, List.range_succ] <;> omega
  refine ⟨?_, by rw [sp]; rfl, ?_⟩
  · rw [sp]
    exact list5 (grp_at (a := []) (y := d0) (z := (46 :: d1)) (b := 0) (e := d0.length) (by simp) rfl rfl (by simp <;> omega) (by simp <;> omega)) (grp_at (a := (d0 ++ [46])) (y := d1) (z := []) (b := d0.length + 1) (e := d0.length + 1 + d1.length) (by simp) rfl rfl (by simp <;> omega) (by simp <;> omega)) (grp_no rfl) (grp_no rfl) (grp_no rfl)
  · refine ok_of ?_ ?_ ?_ ?_ ?_ <;> (intro u v hu hv; simp [gOf, gN, mO, ext, jn, opt] at hu hv; try omega)

theorem grp_201 (d0 d1 b : List Nat) : GrpsOk (d0 ++ (46 :: (d1 ++ (43 :: b)))) [d0, d1] (none) (some b) := by
  have sp : spansOf (gOf [d0, d1] (none) (some b)) = [((0 : Nat) : Int), ((d0.length : Nat) : Int), ((d0.length + 1 : Nat) : Int), ((d0.length + 1 + d1.length : Nat) : Int), -1, -1, -1, -1, ((d0.length + 1 + d1.length + 1 : Nat) : Int), ((d0.length + 1 + d1.length + 1 + b.length : Nat) : Int)] := by simp [spansOf, gOf, gN, mO, ext, jn, opt, List.range_succ] <;> omega
  refine ⟨?_, by rw [sp]; rfl, ?_⟩
  · rw [sp]
    exact list5 (grp_at (a := []) (y := d0) (z := (46 :: (d1 ++ (43 :: b)))) (b := 0) (e := d0.length) (by simp) rfl rfl (by simp <;> omega) (by simp <;> omega)) (grp_at (a := (d0 ++ [46])) (y := d1) (z := (43 :: b)) (b := d0.length + 1) (e := d0.length + 1 + d1.length) (by simp) rfl rfl (by simp <;> omega) (by simp <;> omega)) (grp_no rfl) (grp_no rfl) (grp_at (a := (d0 ++ (46 :: (d1 ++ [43])))) (y := b) (z := []) (b := d0.length + 1 + d1.length + 1) (e := d0.length + 1 + d1.length + 1 + b.length) (by simp) rfl rfl (by simp <;> omega) (by simp <;> omega))
  · refine ok_of ?_ ?_ ?_ ?_ ?_ <;> (intro u v hu hv; simp [gOf, gN, mO, ext, jn, opt] at hu hv; try omega)

theorem grp_210 (d0 d1 p : List Nat) : GrpsOk (d0 ++ (46 :: (d1 ++ (45 :: p)))) [d0, d1] (some p) (none) := by
  have sp : spansOf (gOf [d0, d1] (some p) (none)) = [((0 : Nat) : Int), ((d0.length : Nat) : Int), ((d0.length + 1 : Nat) : Int), ((d0.length + 1 + d1.length : Nat) : Int), -1, -1, ((d0.length + 1 + d1.length + 1 : Nat) : Int), ((d0.length + 1 + d1.length + 1 + p.length : Nat) : Int), -1, -1] := by simp [spansOf, gOf, gN, mO, ext, jn, opt, List.range_succ] <;> omega
  refine ⟨?_, by rw [sp]; rfl, ?_⟩
  · rw [sp]
    exact list5 (grp_at (a := []) (y := d0) (z := (46 :: (d1 ++ (45 :: p)))) (b := 0) (e := d0.length) (by simp) rfl rfl (by simp <;> omega) (by simp <;> omega)) (grp_at (a := (d0 ++ [46])) (y := d1) (z := (45 :: p)) (b := d0.length + 1) (e := d0.length + 1 + d1.length) (by simp) rfl rfl (by simp <;> omega) (by simp <;> omega)) (grp_no rfl) (grp_at (a := (d0 ++ (46 :: (d1 ++ [45])))) (y := p) (z := []) (b := d0.length + 1 + d1.length + 1) (e := d0.length + 1 + d1.length + 1 + p.length) (by simp) rfl rfl (by simp <;> omega) (by simp <;> omega)) (grp_no rfl)
  · refine ok_of ?_ ?_ ?_ ?_ ?_ <;> (intro u v hu hv; simp [gOf, gN, mO, ext, jn, opt] at hu hv; try omega)

theorem grp_211 (d0 d1 p b : List Nat) : GrpsOk (d0 ++ (46 :: (d1 ++ (45 :: (p ++ (43 :: b)))))) [d0, d1] (some p) (some b) := by
  have sp : spansOf (gOf [d0, d1] (some p) (some b)) = [((0 : Nat) : Int), ((d0.length : Nat) : Int), ((d0.length + 1 : Nat) : Int), ((d0.length + 1 + d1.length : Nat) : Int), -1, -1, ((d0.length + 1 + d1.length + 1 : Nat) : Int), ((d0.length + 1 + d1.length + 1 + p.length : Nat) : Int), ((d0.length + 1 + d1.length + 1 + p.length + 1 : Nat) : Int), ((d0.length + 1 + d1.length + 1 + p.length + 1 + b.length : Nat) : Int)] := by simp [spansOf, gOf, gN, mO, ext, jn, opt, List.range_succ] <;> omega
  refine ⟨?_, by rw [sp]; rfl, ?_⟩
  · rw [sp]
    exact list5 (grp_at (a := []) (y := d0) (z := (46 :: (d1 ++ (45 :: (p ++ (43 :: b)))))) (b := 0) (e := d0.length) (by simp) rfl rfl (by simp <;> omega) (by simp <;> omega)) (grp_at (a := (d0 ++ [46])) (y := d1) (z := (45 :: (p ++ (43 :: b)))) (b := d0.length + 1) (e := d0.length + 1 + d1.length) (by simp) rfl rfl (by simp <;> omega) (by simp <;> omega)) (grp_no rfl) (grp_at (a := (d0 ++ (46 :: (d1 ++ [45])))) (y := p) (z := (43 :: b)) (b := d0.length + 1 + d1.length + 1) (e := d0.length + 1 + d1.length + 1 + p.length) (by simp) rfl rfl (by simp <;> omega) (by simp <;> omega)) (grp_at (a := (d0 ++ (46 :: (d1 ++ (45 :: (p ++ [43])))))) (y := b) (z := []) (b := d0.length + 1 + d1.length + 1 + p.length + 1) (e := d0.length + 1 + d1.length + 1 + p.length + 1 + b.length) (by simp) rfl rfl (by simp <;> omega) (by simp <;> omega))
  · refine ok_of ?_ ?_ ?_ ?_ ?_ <;> (intro u v hu hv; simp [gOf, gN, mO, ext, jn, opt] at hu hv; try omega)

theorem grp_300 (d0 d1 d2 : List Nat) : GrpsOk (d0 ++ (46 :: (d1 ++ (46 :: d2)))) [d0, d1, d2] (none) (none) := by
  have sp : spansOf (gOf [d0, d1, d2] (none) (none)) = [((0 : Nat) : Int), ((d0.length : Nat) : Int), ((d0.length + 1 : Nat) : Int), ((d0.length + 1 + d1.length : Nat) : Int), ((d0.length + 1 + d1.length + 1 : Nat) : Int), ((d0.length + 1 + d1.length + 1 + d2.length : Nat) : Int), -1, -1, -1, -1] := by simp [spansOf, gOf, gN, mO, ext, jn, opt, List.range_succ] <;> omega
  refine ⟨?_, by rw [sp]; rfl, ?_⟩
  · rw [sp]
    exact list5 (grp_at (a := []) (y := d0) (z := (46 :: (d1 ++ (46 :: d2)))) (b := 0) (e := d0.length) (by simp) rfl rfl (by simp <;> omega) (by simp <;> omega)) (grp_at (a := (d0 ++ [46])) (y := d1) (z := (46 :: d2)) (b := d0.length + 1) (e := d0.length + 1 + d1.length) (by simp) rfl rfl (by simp <;> omega) (by simp <;> omega)) (grp_at (a := (d0 ++ (46 :: (d1 ++ [46])))) (y := d2) (z := []) (b := d0.length + 1 + d1.length + 1) (e := d0.length + 1 + d1.length + 1 + d2.length) (by simp) rfl rfl (by simp <;> omega) (by simp <;> omega)) (grp_no rfl) (grp_no rfl)
  · refine ok_of ?_ ?_ ?_ ?_ ?_ <;> (intro u v hu hv; simp [gOf, gN, mO, ext, jn, opt] at hu hv; try omega)

theorem grp_301 (d0 d1 d2 b : List Nat) : GrpsOk (d0 ++ (46 :: (d1 ++ (46 :: (d2 ++ (43 :: b)))))) [d0, d1, d2] (none) (some b) := by
  have sp : spansOf (gOf [d0, d1, d2] (none) (some b)) = [((0 : Nat) : Int), ((d0.length : Nat) : Int), ((d0.length + 1 : Nat) : Int), ((d0.length + 1 + d1.length : Nat) : Int), ((d0.length + 1 + d1.length + 1 : Nat) : Int), ((d0.length + 1 + d1.length + 1 + d2.length : Nat) : Int), -1, -1, ((d0.length + 1 + d1.length + 1 + d2.length + 1 : Nat) : Int), ((d0.length + 1 + d1.length + 1 + d2.length + 1 + b.length : Nat) : Int)] := by simp [spansOf, gOf, gN, mO, ext, jn, opt, List.range_succ] <;> omega
  refine ⟨?_, by rw [sp]; rfl, ?_⟩
  · rw [sp]
    exact list5 (grp_at (a := []) (y := d0) (z := (46 :: (d1 ++ (46 :: (d2 ++ (43 :: b)))))) (b := 0) (e := d0.length) (by simp) rfl rfl (by simp <;> omega) (by simp <;> omega)) (grp_at (a := (d0 ++ [46])) (y := d1) (z := (46 :: (d2 ++ (43 :: b)))) (b := d0.length + 1) (e := d0.length + 1 + d1.length) (by simp) rfl rfl (by simp <;> omega) (by simp <;> omega)) (grp_at (a := (d0 ++ (46 :: (d1 ++ [46])))) (y := d2) (z := (43 :: b)) (b := d0.length + 1 + d1.length + 1) (e := d0.length + 1 + d1.length + 1 + d2.length) (by simp) rfl rfl (by simp <;> omega) (by simp <;> omega)) (grp_no rfl) (grp_at (a := (d0 ++ (46 :: (d1 ++ (46 :: (d2 ++ [43])))))) (y := b) (z := []) (b := d0.length + 1 + d1.length + 1 + d2.length + 1) (e := d0.length + 1 + d1.length + 1 + d2.length + 1 + b.length) (by simp) rfl rfl (by simp <;> omega) (by simp <;> omega))
  · refine ok_of ?_ ?_ ?_ ?_ ?_ <;> (intro u v hu hv; simp [gOf, gN, mO, ext, jn, opt] at hu hv; try omega)

theorem grp_310 (d0 d1 d2 p : List Nat) : GrpsOk (d0 ++ (46 :: (d1 ++ (46 :: (d2 ++ (45 :: p)))))) [d0, d1, d2] (some p) (none) := by
  have sp : spansOf (gOf [d0, d1, d2] (some p) (none)) = [((0 : Nat) : Int), ((d0.length : Nat) : Int), ((d0.length + 1 : Nat) : Int), ((d0.length + 1 + d1.length : Nat) : Int), ((d0.length + 1 + d1.length + 1 : Nat) : Int), ((d0.length + 1 + d1.length + 1 + d2.length : Nat) : Int), ((d0.length + 1 + d1.length + 1 + d2.length + 1 : Nat) : Int), ((d0.length + 1 + d1.length + 1 + d2.length + 1 + p.length : Nat) : Int), -1, -1] := by simp [spansOf, gOf, gN, mO, ext, jn, opt, List.range_succ] <;> omega
  refine ⟨?_, by rw [sp]; rfl, ?_⟩
  · rw [sp]
    exact list5 (grp_at (a := []) (y := d0) (z := (46 :: (d1 ++ (46 :: (d2 ++ (45 :: p)))))) (b := 0) (e := d0.length) (by simp) rfl rfl (by simp <;> omega) (by simp <;> omega)) (grp_at (a := (d0 ++ [46])) (y := d1) (z := (46 :: (d2 ++ (45 :: p)))) (b := d0.length + 1) (e := d0.length + 1 + d1.length) (by simp) rfl rfl (by simp <;> omega) (by simp <;> omega)) (grp_at (a := (d0 ++ (46 :: (d1 ++ [46])))) (y := d2) (z := (45 :: p)) (b := d0.length + 1 + d1.length + 1) (e := d0.length + 1 + d1.length + 1 + d2.length) (by simp) rfl rfl (by simp <;> omega) (by simp <;> omega)) (grp_at (a := (d0 ++ (46 :: (d1 ++ (46 :: (d2 ++ [45])))))) (y := p) (z := []) (b := d0.length + 1 + d1.length + 1 + d2.length + 1) (e := d0.length + 1 + d1.length + 1 + d2.length + 1 + p.length) (by simp) rfl rfl (by simp <;> omega) (by simp <;> omega)) (grp_no rfl)
  · refine ok_of ?_ ?_ ?_ ?_ ?_ <;> (intro u v hu hv; simp [gOf, gN, mO, ext, jn, opt] at hu hv; try omega)

theorem grp_311 (d0 d1 d2 p b : List Nat) : GrpsOk (d0 ++ (46 :: (d1 ++ (46 :: (d2 ++ (45 :: (p ++ (43 :: b)))))))) [d0, d1, d2] (some p) (some b) := by
  have sp : spansOf (gOf [d0, d1, d2] (some p) (some b)) = [((0 : Nat) : Int), ((d0.length : Nat) : Int), ((d0.length + 1 : Nat) : Int), ((d0.length + 1 + d1.length : Nat) : Int), ((d0.length + 1 + d1.length + 1 : Nat) : Int), ((d0.length + 1 + d1.length + 1 + d2.length : Nat) : Int), ((d0.length + 1 + d1.length + 1 + d2.length + 1 : Nat) : Int), ((d0.length + 1 + d1.length + 1 + d2.length + 1 + p.length : Nat) : Int), ((d0.length + 1 + d1.length + 1 + d2.length + 1 + p.length + 1 : Nat) : Int), ((d0.length + 1 + d1.length + 1 + d2.length + 1 + p.length + 1 + b.length : Nat) : Int)] := by simp [spansOf, gOf, gN, mO, ext, jn, opt, List.range_succ] <;> omega
  refine ⟨?_, by rw [sp]; rfl, ?_⟩
  · rw [sp]
    exact list5 (grp_at (a := []) (y := d0) (z := (46 :: (d1 ++ (46 :: (d2 ++ (45 :: (p ++ (43 :: b)))))))) (b := 0) (e := d0.length) (by simp) rfl rfl (by simp <;> omega) (by simp <;> omega)) (grp_at (a := (d0 ++ [46])) (y := d1) (z := (46 :: (d2 ++ (45 :: (p ++ (43 :: b)))))) (b := d0.length + 1) (e := d0.length + 1 + d1.length) (by simp) rfl rfl (by simp <;> omega) (by simp <;> omega)) (grp_at (a := (d0 ++ (46 :: (d1 ++ [46])))) (y := d2) (z := (45 :: (p ++ (43 :: b)))) (b := d0.length + 1 + d1.length + 1) (e := d0.length + 1 + d1.length + 1 + d2.length) (by simp) rfl rfl (by simp <;> omega) (by simp <;> omega)) (grp_at (a := (d0 ++ (46 :: (d1 ++ (46 :: (d2 ++ [45])))))) (y := p) (z := (43 :: b)) (b := d0.length + 1 + d1.length + 1 + d2.length + 1) (e := d0.length + 1 + d1.length + 1 + d2.length + 1 + p.length) (by simp) rfl rfl (by simp <;> omega) (by simp <;> omega)) (grp_at (a := (d0 ++ (46 :: (d1 ++ (46 :: (d2 ++ (45 :: (p ++ [43])))))))) (y := b) (z := []) (b := d0.length + 1 + d1.length + 1 + d2.length + 1 + p.length + 1) (e := d0.length + 1 + d1.length + 1 + d2.length + 1 + p.length + 1 + b.length) (by simp) rfl rfl (by simp <;> omega) (by simp <;> omega))
  · refine ok_of ?_ ?_ ?_ ?_ ?_ <;> (intro u v hu hv; simp [gOf, gN, mO, ext, jn, opt] at hu hv; try omega)
theorem groups_of {l : List Nat} : ∀ {ds : List (List Nat)} {op ob : Option (List Nat)}, Form l ds op ob → GrpsOk l ds op ob := by
  intro ds op ob F
  exact match ds, F, F.ne, F.le with
  | [d0], F, _, _ => by
      cases op with
      | none =>
        cases ob with
        | none =>
          have q := grp_100 d0
          refine (congrArg (fun l => GrpsOk l _ _ _) ?_).mp q
          rw [F.eq]; simp [jn, opt]
        | some b =>
          have q := grp_101 d0 b
          refine (congrArg (fun l => GrpsOk l _ _ _) ?_).mp q
          rw [F.eq]; simp [jn, opt]
      | some p =>
        cases ob with
        | none =>
          have q := grp_110 d0 p
          refine (congrArg (fun l => GrpsOk l _ _ _) ?_).mp q
          rw [F.eq]; simp [jn, opt]
        | some b =>
          have q := grp_111 d0 p b
          refine (congrArg (fun l => GrpsOk l _ _ _) ?_).mp q
          rw [F.eq]; simp [jn, opt]
  | [d0, d1], F, _, _ => by
      cases op with
      | none =>
        cases ob with
        | none =>
          have q := grp_200 d0 d1
          refine (congrArg (fun l => GrpsOk l _ _ _) ?_).mp q
          rw [F.eq]; simp [jn, opt]
        | some b =>
          have q := grp_201 d0 d1 b
          refine (congrArg (fun l => GrpsOk l _ _ _) ?_).mp q
          rw [F.eq]; simp [jn, opt]
      | some p =>
        cases ob with
        | none =>
          have q := grp_210 d0 d1 p
          refine (congrArg (fun l => GrpsOk l _ _ _) ?_).mp q
          rw [F.eq]; simp [jn, opt]
        | some b =>
          have q := grp_211 d0 d1 p b
          refine (congrArg (fun l => GrpsOk l _ _ _) ?_).mp q
          rw [F.eq]; simp [jn, opt]
  | [d0, d1, d2], F, _, _ => by
      cases op with
      | none =>
        cases ob with
        | none =>
          have q := grp_300 d0 d1 d2
          refine (congrArg (fun l => GrpsOk l _ _ _) ?_).mp q
          rw [F.eq]; simp [jn, opt]
        | some b =>
          have q := grp_301 d0 d1 d2 b
          refine (congrArg (fun l => GrpsOk l _ _ _) ?_).mp q
          rw [F.eq]; simp [jn, opt]
      | some p =>
        cases ob with
        | none =>
          have q := grp_310 d0 d1 d2 p
          refine (congrArg (fun l => GrpsOk l _ _ _) ?_).mp q
          rw [F.eq]; simp [jn, opt]
        | some b =>
          have q := grp_311 d0 d1 d2 p b
          refine (congrArg (fun l => GrpsOk l _ _ _) ?_).mp q
          rw [F.eq]; simp [jn, opt]
  | _ :: _ :: _ :: _ :: _, _, _, h => absurd h (by simp)
end Mine
end
end
section
open PySem PySem.W PyProof.Rows PySem.Spec PySem.Calls
set_option maxRecDepth 100000
set_option linter.unusedVariables false
set_option linter.unusedSimpArgs false
noncomputable section
namespace Mine
/-! what the law reads, what parse reads: by the shape -/
theorem dig_dg : ∀ c, c < 128 → Unicode.isDigit c = dg c := by decide +kernel
theorem okc_lt {c : Nat} (h : okc c = true) : c < 128 := by
  unfold okc dg at h
  simp only [Bool.or_eq_true, Bool.and_eq_true, decide_eq_true_eq, beq_iff_eq] at h
  omega
theorem okc_cl {c : Nat} : okc c = true → cl c = true := by
  unfold okc cl
  intro h
  simp only [Bool.or_eq_true, Bool.and_eq_true, decide_eq_true_eq, beq_iff_eq] at h ⊢
  rcases h with ((h | h) | h) | h <;> simp [h]
theorem cl_okc {c : Nat} (h : cl c = true) (h' : c ≠ 46) : okc c = true := by
  unfold cl at h
  unfold okc
  simp only [Bool.or_eq_true, Bool.and_eq_true, decide_eq_true_eq, beq_iff_eq] at h ⊢
  rcases h with (((h | h) | h) | h) | h <;> first | (exact absurd h h') | simp [h]
theorem dg_okc {c : Nat} (h : dg c = true) : okc c = true := by unfold okc; rw [h]; rfl
theorem item0 (c : Nat) (r : List Nat) : Txt.item (S (c :: r)) 0 = S [c] := by
  unfold Txt.item Txt.charAt
  have hl : (0 : Int) < ((S (c :: r)).length : Int) := by rw [S_len, List.length_cons]; omega
  rw [StrLaws.seqIndex_nonneg (by omega) hl]
  rfl
theorem pl_eq (q : List Nat) : plS (S q) = (!q.isEmpty && q.all dg) := by
  unfold plS
  rw [sNil]
  show (S q != S [] && _) = _
  rw [S_list]
  congr 1
  show (!(S q == S [])) = _
  rw [S_beq]
  cases q <;> rfl
theorem isdigit_eq {q : List Nat} (h : ∀ c ∈ q, c < 128) : Txt.isdigit (S q) = (!q.isEmpty && q.all dg) := by
  unfold Txt.isdigit
  rw [S_len]
  have e1 : decide (q.length > 0) = !q.isEmpty := by cases q <;> rfl
  rw [e1]
  congr 1
  rw [← Array.all_toList, S_list]
  rw [Bool.eq_iff_iff, List.all_eq_true, List.all_eq_true]
  exact ⟨fun z c hc => by rw [← dig_dg c (h c hc)]; exact z c hc, fun z c hc => by rw [dig_dg c (h c hc)]; exact z c hc⟩
theorem lz_eq {q : List Nat} (h : ∀ c ∈ q, c < 128) (hq : q ≠ []) : lz (S q) = (decide ((1 : Int) < (S q).length) && ((Txt.item (S q) 0 == PySem.Str.ofString "0") && plS (S q))) := by
  cases q with
  | nil => exact absurd rfl hq
  | cons c r =>
    unfold lz
    rw [item0, isdigit_eq h, pl_eq, S_len, sZero, S_beq]
    have e : (S (c :: r) != S [48]) = !(c :: r == [48]) := by show (!(S (c :: r) == S [48])) = _; rw [S_beq]
    rw [e]
    by_cases hc : c = 48
    · subst hc
      cases r with
      | nil => rfl
      | cons d r =>
        have : decide ((1 : Int) < ((48 :: d :: r).length : Nat)) = true := decide_eq_true (by simp only [List.length_cons]; omega)
        rw [this]
        have e2 : (48 :: d :: r == [48]) = false := by simp
        rw [e2]
        cases (48 :: d :: r).all dg <;> rfl
    · have e2 : ([c] == [48]) = false := by simp; exact hc
      rw [e2]
      simp
theorem lz2_eq {d : List Nat} (h : DG d) : lz2 (S d) = lz (S d) ∧ plS (S d) = true ∧ bad (S d) = lz (S d) := by
  have hp : plS (S d) = true := by
    rw [pl_eq]
    have : d.all dg = true := List.all_eq_true.mpr h.2
    rw [this]
    cases d with
    | nil => exact absurd rfl h.1
    | cons => rfl
  have e : lz2 (S d) = lz (S d) := by
    rw [lz_eq (fun c hc => okc_lt (dg_okc (h.2 c hc))) h.1, hp, Bool.and_true]; rfl
  refine ⟨e, hp, ?_⟩
  unfold bad
  rw [hp, e]; rfl
theorem ok_same {q : List Nat} (h : ∀ c ∈ q, okc c = true) (n : Bool) : okL n (S q) = okI (!n) (S q) := by
  unfold okL okI
  rw [sNil, S_beq, S_len, S_list]
  cases q with
  | nil => rfl
  | cons c r =>
    have hall : (c :: r).all okc = true := List.all_eq_true.mpr h
    rw [hall, lz_eq (fun k hk => okc_lt (h k hk)) (by simp), S_len]
    have e0 : ((c :: r) == ([] : List Nat)) = false := rfl
    have e1 : ((c :: r).length == 0) = false := rfl
    rw [e0, e1]
    cases n <;> simp
theorem ids_nil (n : Bool) : idsL n (S []) = .tuple [] := by unfold idsL; rw [sNil]; exact if_pos (by rw [S_beq]; rfl)
theorem idsD_nil (n : Bool) : idsD n (S []) = some (.tuple []) := by unfold idsD; rw [sNil]; exact if_pos (by rw [S_beq]; rfl)
theorem all_map {f : PySem.Str → Bool} {g : PySem.Str → Bool} {ps : List (List Nat)} (h : ∀ p ∈ ps, f (S p) = g (S p)) : (ps.map S).all f = (ps.map S).all g := by
  rw [Bool.eq_iff_iff, List.all_eq_true, List.all_eq_true]
  constructor
  · intro z x hx
    obtain ⟨p, hp, rfl⟩ := List.mem_map.mp hx
    rw [← h p hp]; exact z _ hx
  · intro z x hx
    obtain ⟨p, hp, rfl⟩ := List.mem_map.mp hx
    rw [h p hp]; exact z _ hx
theorem jn_sub {c : Nat} : ∀ {ps : List (List Nat)} {p : List Nat}, p ∈ ps → ∀ k ∈ p, k ∈ jn c ps
  | [q], p, h, k, hk => by rw [List.mem_singleton.mp h] at hk; exact hk
  | q :: q' :: r, p, h, k, hk => by
    show k ∈ q ++ c :: jn c (q' :: r)
    rcases List.mem_cons.mp h with rfl | h
    · exact List.mem_append_left _ hk
    · exact List.mem_append_right _ (List.mem_cons_of_mem _ (jn_sub h k hk))
/-- on the pattern's signs both readers of names agree -/
theorem ids_same {p : List Nat} (h : ∀ c ∈ p, cl c = true) (n : Bool) : idsL n (S p) = (idsD (!n) (S p)).getD .none := by
  by_cases h0 : p = []
  · subst h0; rw [ids_nil, idsD_nil]; rfl
  · unfold idsL idsD
    have e0 : (S p == PySem.Str.ofString "") = false := by rw [sNil, S_beq]; cases p with
      | nil => exact absurd rfl h0
      | cons => rfl
    simp only [e0, Bool.false_eq_true, if_false]
    rw [sDot]
    obtain ⟨ps, _, hf, hj, hs⟩ := pieces 46 p
    rw [hs]
    have e : (ps.map S).all (okL n) = (ps.map S).all (okI (!n)) := all_map fun q hq => ok_same (fun c hc => cl_okc (h c (by rw [hj]; exact jn_sub hq c hc)) (fun z => hf q hq (z ▸ hc))) n
    rw [e]
    cases (ps.map S).all (okI (!n)) <;> rfl
theorem ids_sameT {p : List Nat} (h : ∀ c ∈ p, cl c = true) : idsL false (S p) = (idsD true (S p)).getD .none := ids_same h false
theorem ids_sameF {p : List Nat} (h : ∀ c ∈ p, cl c = true) : idsL true (S p) = (idsD false (S p)).getD .none := ids_same h true
theorem ids_signs {p : List Nat} {n : Bool} (h : isDN (idsL n (S p)) = false) : ∀ c ∈ p, cl c = true := by
  by_cases h0 : p = []
  · subst h0; intro c hc; cases hc
  · unfold idsL at h
    have e0 : (S p == PySem.Str.ofString "") = false := by rw [sNil, S_beq]; cases p with
      | nil => exact absurd rfl h0
      | cons => rfl
    rw [e0, if_neg (by decide), sDot] at h
    obtain ⟨ps, _, hf, hj, hs⟩ := pieces 46 p
    rw [hs] at h
    by_cases ha : (ps.map S).all (okL n) = true
    · intro c hc
      rw [hj] at hc
      rcases jn_mem hc with rfl | ⟨q, hq, hk⟩
      · decide
      · have h1 := List.all_eq_true.mp ha (S q) (List.mem_map_of_mem hq)
        unfold okL at h1
        simp only [Bool.and_eq_true] at h1
        have h2 := h1.1.2
        rw [S_list] at h2
        exact okc_cl (List.all_eq_true.mp h2 c hk)
    · rw [if_neg ha] at h; cases h
theorem idsD_tup {n : Bool} {y : PySem.Str} {d : Dat} (h : idsD n y = some d) : isTup d = true ∧ isDN d = false := by
  unfold idsD at h
  split at h
  · cases h; exact ⟨rfl, rfl⟩
  · split at h
    · cases h; exact ⟨rfl, rfl⟩
    · cases h
/-- the tails, read: none is none; else the names, if they are well formed -/
def TD (allow : Bool) : Option (List Nat) → Option Dat
  | none => some .none
  | some p => idsD allow (S p)
theorem td_isDN {allow : Bool} {o : Option (List Nat)} {d : Dat} (h : TD allow o = some d) : isDN d = o.isNone := by
  cases o with
  | none => cases h; rfl
  | some p => exact (idsD_tup h).2
/-! the law's reading -/
def bareO (o : Option (List Nat)) : Bool := match o with
  | some [] => true
  | _ => false
theorem s1_form {l : List Nat} {ds : List (List Nat)} {op ob : Option (List Nat)} (F : Form l ds op ob) : s1 (S l) = (TD true ob).map fun e => (e, bareO ob, S (jn 46 ds ++ opt 45 op)) := by
  have e := F.eq
  rw [← List.append_assoc] at e
  unfold s1
  rw [sPlus]
  cases ob with
  | none =>
    have e : l = jn 46 ds ++ opt 45 op := by rw [e]; simp [opt]
    rw [e, find_none F.pre_no, if_neg (by decide)]; rfl
  | some b =>
    have e : l = (jn 46 ds ++ opt 45 op) ++ 43 :: b := e
    have hf : Txt.find (S l) (S [43]) = ((jn 46 ds ++ opt 45 op).length : Int) := by rw [e]; exact find_some F.pre_no
    have ha : aft (S l) (S [43]) = S b := by
      unfold aft
      rw [hf, e]
      have := slice_from (a := (jn 46 ds ++ opt 45 op) ++ [43]) (b := b)
      rw [List.append_assoc _ [43] b] at this
      rw [List.length_append (bs := [43])] at this
      exact this
    have hb : bef (S l) (S [43]) = S (jn 46 ds ++ opt 45 op) := by
      unfold bef
      rw [hf, e]
      exact slice_to
    rw [hf, if_pos (decide_eq_true (by omega)), ha, hb, sNil, S_beq, ids_sameT (F.bld b rfl)]
    show _ = Option.map _ (idsD true (S b))
    show (if isDN ((idsD true (S b)).getD .none) = true then _ else _) = _
    cases hd : idsD true (S b) with
    | none => rfl
    | some d =>
      rw [show isDN ((some d).getD .none) = false from (idsD_tup hd).2]
      cases b <;> rfl
theorem s2_form {l : List Nat} {ds : List (List Nat)} {op ob : Option (List Nat)} (F : Form l ds op ob) (bare : Bool) : s2 (S (jn 46 ds ++ opt 45 op)) bare = (TD false op).map fun e => (e, bare || bareO op, S (jn 46 ds)) := by
  unfold s2
  rw [sMinus]
  cases op with
  | none =>
    have e : jn 46 ds ++ opt 45 none = jn 46 ds := by simp [opt]
    rw [e, find_none F.num_no.2, if_neg (by decide)]
    show _ = some (Dat.none, bare || false, _)
    rw [Bool.or_false]
  | some b =>
    have hf : Txt.find (S (jn 46 ds ++ opt 45 (some b))) (S [45]) = ((jn 46 ds).length : Int) := find_some F.num_no.2
    have ha : aft (S (jn 46 ds ++ opt 45 (some b))) (S [45]) = S b := by
      unfold aft
      rw [hf]
      have := slice_from (a := jn 46 ds ++ [45]) (b := b)
      rw [List.append_assoc _ [45] b] at this
      rw [List.length_append (bs := [45])] at this
      exact this
    have hb : bef (S (jn 46 ds ++ opt 45 (some b))) (S [45]) = S (jn 46 ds) := by
      unfold bef
      rw [hf]
      exact slice_to
    rw [hf, if_pos (decide_eq_true (by omega)), ha, hb, sNil, S_beq, ids_sameF (F.pre b rfl)]
    show _ = Option.map _ (idsD false (S b))
    show (if isDN ((idsD false (S b)).getD .none) = true then _ else _) = _
    cases hd : idsD false (S b) with
    | none => rfl
    | some d =>
      rw [show isDN ((some d).getD .none) = false from (idsD_tup hd).2]
      cases b <;> rfl
theorem s3_form {l : List Nat} {ds : List (List Nat)} {op ob : Option (List Nat)} (F : Form l ds op ob) : s3 (S (jn 46 ds)) = if ds.any (fun d => lz (S d)) = true then none else some (ds.map S) := by
  unfold s3
  rw [sDot, split_S F.ne F.pieces, List.length_map]
  have e1 : decide ((3 : Int) < (ds.length : Nat)) = false := decide_eq_false (by have := F.le; omega)
  rw [e1, Bool.false_or]
  have e2 : (!(ds.map S).all fun r => !bad r) = ds.any (fun d => lz (S d)) := by
    have hn := F.num
    clear F e1
    induction ds with
    | nil => rfl
    | cons d ds ih =>
      rw [List.map_cons, List.all_cons, List.any_cons, Bool.not_and, ih (fun x hx => hn x (List.mem_cons_of_mem _ hx)), (lz2_eq (hn d (List.mem_cons_self ..))).2.2, Bool.not_not]
  rw [e2]
/-- the numbers -/
def numsD (ds : List (List Nat)) : List Dat := [nth (ds.map S) 0, nth (ds.map S) 1, nth (ds.map S) 2]
def preD (op ob : Option (List Nat)) (d : Dat) : Dat := if (op.isNone && ob.isSome) = true then .tuple [] else d
theorem rd_form {l : List Nat} {ds : List (List Nat)} {op ob : Option (List Nat)} (F : Form l ds op ob) :
    rd (S l) = if ds.any (fun d => lz (S d)) = true then none else (TD false op).bind fun d => (TD true ob).map fun e => (numsD ds ++ [preD op ob d, e], bareO ob || bareO op) := by
  unfold rd
  rw [s1_form F]
  cases h1 : TD true ob with
  | none =>
    show none = _
    cases h2 : TD false op <;> split <;> rfl
  | some e =>
    show (match s2 (S (jn 46 ds ++ opt 45 op)) (bareO ob) with | none => none | some (pre, bare, t) => match s3 t with | none => none | some rows => some (due rows pre e, bare)) = _
    rw [s2_form F]
    cases h2 : TD false op with
    | none => show none = _; split <;> rfl
    | some d =>
      show (match s3 (S (jn 46 ds)) with | none => none | some rows => some (due rows d e, bareO ob || bareO op)) = _
      rw [s3_form F]
      cases hz : ds.any (fun d => lz (S d)) with
      | true => rfl
      | false =>
        show some (due (ds.map S) d e, _) = some _
        unfold due preD numsD
        rw [td_isDN h1, td_isDN h2]
        cases op <;> cases ob <;> rfl
theorem plS_dg {q : List Nat} (h : plS (S q) = true) : DG q := by
  rw [pl_eq, Bool.and_eq_true] at h
  exact ⟨(fun z => by subst z; cases h.1), List.all_eq_true.mp h.2⟩
/-- what the law reads has the pattern's shape -/
theorem form_of_rd {l : List Nat} {r : List Dat × Bool} (h : rd (S l) = some r) : ∃ ds op ob, Form l ds op ob := by
  unfold rd at h
  obtain ⟨t, ob, e1, hob, h⟩ : ∃ t ob, l = t ++ opt 43 ob ∧ (∀ p, ob = some p → ∀ c ∈ p, cl c = true) ∧ ∃ b bare, (match s2 (S t) bare with | none => none | some (pre, bare, t) => match s3 t with | none => none | some rows => some (due rows pre b, bare)) = some r := by
    unfold s1 at h
    rw [sPlus] at h
    by_cases hm : 43 ∈ l
    · obtain ⟨a, b, e, hn⟩ := cut_first hm
      have hf : Txt.find (S l) (S [43]) = (a.length : Int) := by rw [e]; exact find_some hn
      have ha : aft (S l) (S [43]) = S b := by
        unfold aft
        rw [hf, e]
        have := slice_from (a := a ++ [43]) (b := b)
        rw [List.append_assoc _ [43] b] at this
        rw [List.length_append (bs := [43])] at this
        exact this
      have hb : bef (S l) (S [43]) = S a := by unfold bef; rw [hf, e]; exact slice_to
      rw [hf, if_pos (decide_eq_true (by omega)), ha, hb] at h
      cases hd : isDN (idsL false (S b)) with
      | true => rw [hd, if_pos rfl] at h; cases h
      | false =>
        rw [hd, if_neg (by decide)] at h
        exact ⟨a, some b, e, fun p q => by cases q; exact ids_signs hd, _, _, h⟩
    · rw [find_none hm, if_neg (by decide)] at h
      exact ⟨l, none, by simp [opt], (fun p q => by cases q), _, _, h⟩
  obtain ⟨b, bare, h⟩ := h
  obtain ⟨n, op, e2, hop, h⟩ : ∃ n op, t = n ++ opt 45 op ∧ (∀ p, op = some p → ∀ c ∈ p, cl c = true) ∧ ∃ pre bare, (match s3 (S n) with | none => none | some rows => some (due rows pre b, bare)) = some r := by
    unfold s2 at h
    rw [sMinus] at h
    by_cases hm : 45 ∈ t
    · obtain ⟨a, p, e, hn⟩ := cut_first hm
      have hf : Txt.find (S t) (S [45]) = (a.length : Int) := by rw [e]; exact find_some hn
      have ha : aft (S t) (S [45]) = S p := by
        unfold aft
        rw [hf, e]
        have := slice_from (a := a ++ [45]) (b := p)
        rw [List.append_assoc _ [45] p] at this
        rw [List.length_append (bs := [45])] at this
        exact this
      have hb : bef (S t) (S [45]) = S a := by unfold bef; rw [hf, e]; exact slice_to
      rw [hf, if_pos (decide_eq_true (by omega)), ha, hb] at h
      cases hd : isDN (idsL true (S p)) with
      | true => rw [hd, if_pos rfl] at h; cases h
      | false =>
        rw [hd, if_neg (by decide)] at h
        exact ⟨a, some p, e, fun x q => by cases q; exact ids_signs hd, _, _, h⟩
    · rw [find_none hm, if_neg (by decide)] at h
      exact ⟨t, none, by simp [opt], (fun p q => by cases q), _, _, h⟩
  obtain ⟨pre, bare', h⟩ := h
  unfold s3 at h
  rw [sDot] at h
  obtain ⟨ps, hne, hf, hj, hs⟩ := pieces 46 n
  rw [hs] at h
  cases hc : (decide ((3 : Int) < ((ps.map S).length : Nat)) || !(ps.map S).all (fun r => !bad r)) with
  | true => rw [hc, if_pos rfl] at h; cases h
  | false =>
    have h3 := of_decide_eq_false (Bool.or_eq_false_iff.mp hc).1
    rw [List.length_map] at h3
    have hall : (ps.map S).all (fun r => !bad r) = true := by
      have := (Bool.or_eq_false_iff.mp hc).2
      revert this; cases (ps.map S).all (fun r => !bad r) <;> simp
    refine ⟨ps, op, ob, ⟨by rw [e1, e2, hj, List.append_assoc], hne, by omega, fun d hd => ?_, hop, hob⟩⟩
    have h4 := List.all_eq_true.mp hall (S d) (List.mem_map_of_mem hd)
    refine plS_dg ?_
    revert h4
    unfold bad
    cases plS (S d) <;> simp
/-! parse's reading -/
theorem nth_eq (ds : List (List Nat)) (hne : ds ≠ []) : numsD ds = [.int (nI (S (ds.getD 0 []))), oI (oS (ds[1]?)), oI (oS (ds[2]?))] ∨ 3 < ds.length := by
  match ds with
  | [] => exact absurd rfl hne
  | [d0] => exact .inl rfl
  | [d0, d1] => exact .inl rfl
  | [d0, d1, d2] => exact .inl rfl
  | _ :: _ :: _ :: _ :: _ => exact .inr (by simp)
theorem any_lz (ds : List (List Nat)) (hne : ds ≠ []) (hl : ds.length ≤ 3) : ds.any (fun d => lz (S d)) = (lz (S (ds.getD 0 [])) || (lzO (oS (ds[1]?)) || lzO (oS (ds[2]?)))) := by
  match ds, hne, hl with
  | [d0], _, _ => simp [List.any, lzO, oS]
  | [d0, d1], _, _ => simp [List.any, lzO, oS]
  | [d0, d1, d2], _, _ => simp [List.any, lzO, oS]
  | _ :: _ :: _ :: _ :: _, _, h => exact absurd h (by simp)
theorem ps_form {l : List Nat} {ds : List (List Nat)} {op ob : Option (List Nat)} (F : Form l ds op ob) (p : Bool) :
    psG p (S (ds.getD 0 [])) (oS (ds[1]?)) (oS (ds[2]?)) (oS op) (oS ob) = if ds.any (fun d => lz (S d)) = true then none else (TD false op).bind fun d => (TD true ob).map fun e => numsD ds ++ [if p then preD op ob d else orT d, if p then e else orT e] := by
  have hn : numsD ds = [.int (nI (S (ds.getD 0 []))), oI (oS (ds[1]?)), oI (oS (ds[2]?))] := by
    rcases nth_eq ds F.ne with h | h
    · exact h
    · exact absurd F.le (by omega)
  rw [any_lz ds F.ne F.le, hn]
  unfold psG
  cases lz (S (ds.getD 0 [])) with
  | true => rfl
  | false =>
    cases lzO (oS (ds[1]?)) with
    | true => rfl
    | false =>
      cases lzO (oS (ds[2]?)) with
      | true => rfl
      | false =>
        show psPre p _ _ _ = Option.bind _ _
        cases op with
        | none =>
          show psPre p _ (oS ob) none = _
          cases ob with
          | none => cases p <;> rfl
          | some b =>
            show (if (p && false) = true then _ else psTail p _ (.tuple []) (some (S b))) = _
            rw [Bool.and_false, if_neg (by decide)]
            show (match idsD true (S b) with | none => none | some e => some _) = Option.map _ (idsD true (S b))
            cases hb : idsD true (S b) with
            | none => rfl
            | some e =>
              have ht := (idsD_tup hb).1
              have ho : orT e = e := by cases e <;> first | rfl | cases ht
              cases p
              · show some _ = some (_ ++ [orT .none, orT e]); rw [ho]; rfl
              · rfl
        | some x =>
          show (match idsD false (S x) with | none => none | some d => psTail p _ d (oS ob)) = Option.bind (idsD false (S x)) _
          cases hx : idsD false (S x) with
          | none => rfl
          | some d =>
            have ht := (idsD_tup hx).1
            have ho : orT d = d := by cases d <;> first | rfl | cases ht
            show psTail p _ d (oS ob) = _
            cases ob with
            | none =>
              cases p
              · show some _ = some (_ ++ [orT d, orT .none]); rw [ho]; rfl
              · rfl
            | some b =>
              show (match idsD true (S b) with | none => none | some e => some _) = Option.map _ (idsD true (S b))
              cases hb : idsD true (S b) with
              | none => rfl
              | some e =>
                have ht2 := (idsD_tup hb).1
                have ho2 : orT e = e := by cases e <;> first | rfl | cases ht2
                cases p
                · show some _ = some (_ ++ [orT d, orT e]); rw [ho, ho2]
                · rfl
end Mine
end
end
section
open PySem PySem.W PyProof.Rows PySem.Spec PySem.Calls
set_option maxRecDepth 100000
set_option linter.unusedVariables false
set_option linter.unusedSimpArgs false
namespace Mine
open Builtin Builtin.Str PySem.StrLaws PySem.NumText
/-! texts of ASCII signs, of at most 300 -/
structure Asc (l : List Nat) : Prop where
  sign : ∀ k ∈ l, k < 128 ∧ k ≠ 10
  len : l.length ≤ 300
theorem Asc.sub {l l' : List Nat} (h : Asc l) (hs : ∀ k ∈ l', k ∈ l) (hl : l'.length ≤ l.length) : Asc l' := ⟨fun k hk => h.sign k (hs k hk), Nat.le_trans hl h.len⟩
theorem Asc.shown {l : List Nat} (h : Asc l) : Shown (S l) := by
  unfold Shown
  refine Nat.le_trans (reprText_len (S l) fun c hc => ?_) ?_
  · have := (h.sign c hc).1
    have : (128 : Nat) < 16 ^ 8 := by decide
    omega
  · rw [S_len]; have := h.len; omega
theorem Asc.str {l : List Nat} (h : Asc l) : AsciiS (S l) := fun k hk => (h.sign k hk).1
theorem Asc.arr {l : List Nat} (h : Asc l) : Ascii (S l).cps := by
  intro p
  show l.toArray.getD p 0 < 128 ∧ l.toArray.getD p 0 ≠ 10
  rw [Array.getD_eq_getD_getElem?, List.getElem?_toArray]
  cases q : l[p]? with
  | none => exact ⟨by decide, by decide⟩
  | some k => exact h.sign k (List.mem_of_getElem? q)
theorem jn_len (c : Nat) : ∀ {ps : List (List Nat)} {p : List Nat}, p ∈ ps → p.length ≤ (jn c ps).length
  | [], _, h => by cases h
  | q :: r, p, h => by
    by_cases hr : r = []
    · subst hr
      rcases List.mem_cons.mp h with rfl | h
      · exact Nat.le_refl _
      · cases h
    · rw [jn_cons c q hr, List.length_append, List.length_cons]
      rcases List.mem_cons.mp h with rfl | h
      · omega
      · have := jn_len c h; omega
theorem jn_sum (c : Nat) : ∀ {ps : List (List Nat)}, ps ≠ [] → (ps.map fun p => p.length).sum + ps.length = (jn c ps).length + 1
  | [], h => absurd rfl h
  | q :: r, h => by
    by_cases hr : r = []
    · subst hr; show q.length + 0 + 1 = q.length + 1; omega
    · rw [jn_cons c q hr, List.length_append, List.length_cons, List.map_cons, List.sum_cons, List.length_cons]
      have := jn_sum c hr; omega
theorem Asc.piece {l p : List Nat} {ps : List (List Nat)} {c : Nat} (h : Asc l) (e : l = jn c ps) (hp : p ∈ ps) : Asc p := h.sub (fun k hk => by rw [e]; exact jn_sub hp k hk) (by rw [e]; exact jn_len c hp)
theorem Asc.split {l : List Nat} (h : Asc l) : SplitOk (S l) ∧ ∀ y ∈ Txt.split (S l) (PySem.Str.ofString "."), AsciiS y := by
  obtain ⟨ps, hne, hf, e, hs⟩ := pieces 46 l
  have hl := jn_sum 46 hne
  rw [← e] at hl
  have hlen := h.len
  rw [sDot]
  refine ⟨⟨by rw [S_len]; exact hlen, ?_, ?_, ?_, ?_⟩, ?_⟩
  · rw [sDot, hs]
    intro x hx
    obtain ⟨p, hp, rfl⟩ := List.mem_map.mp hx
    have := h.piece e hp
    exact ⟨by rw [S_len]; have := this.len; omega, this.shown⟩
  · rw [sDot, hs, List.length_map, List.map_map]
    have : (PySem.Str.length ∘ S) = fun p : List Nat => p.length := by funext p; exact S_len p
    rw [this]; omega
  · rw [sDot, hs, txt_join, ← e]; exact h.shown
  · rw [sDot, hs, List.length_map]; omega
  · rw [hs]
    intro x hx
    obtain ⟨p, hp, rfl⟩ := List.mem_map.mp hx
    exact (h.piece e hp).str
/-! numbers -/
theorem dg_all {d : List Nat} (h : ∀ c ∈ d, dg c = true) : AllDigits d := fun c hc => by
  have := h c hc
  unfold dg at this
  rw [Bool.and_eq_true, decide_eq_true_iff, decide_eq_true_iff] at this
  exact this
theorem num_eq {d : List Nat} (h : DG d) (hl : d.length ≤ 300) : PySem.intText? (S d) = some ((digitsVal d : Nat) : Int) :=
  intText_digits (x := S d) (dg_all h.2) h.1 (by rw [S_len]; omega)
theorem nI_dg {d : List Nat} (h : DG d) (hl : d.length ≤ 300) : nI (S d) = ((digitsVal d : Nat) : Int) := by unfold nI; rw [num_eq h hl]; rfl
theorem isNum_of {d : List Nat} (h : DG d) (hl : d.length ≤ 300) : isNum (S d) := ⟨by rw [S_len]; have := h.len; omega, by rw [S_len]; omega, by rw [num_eq h hl]; rfl⟩
theorem val_lt : ∀ (d : List Nat) (a : Nat), AllDigits d → d.foldl (fun acc c => acc * 10 + (c - 48)) a < (a + 1) * 10 ^ d.length
  | [], a, _ => by show a < (a + 1) * 1; omega
  | c :: d, a, h => by
    have h1 := val_lt d (a * 10 + (c - 48)) h.tail
    have hc := h c (List.mem_cons_self ..)
    show d.foldl _ (a * 10 + (c - 48)) < (a + 1) * 10 ^ (d.length + 1)
    refine Nat.lt_of_lt_of_le h1 ?_
    rw [Nat.pow_succ, Nat.mul_comm (10 ^ d.length) 10, ← Nat.mul_assoc]
    exact Nat.mul_le_mul_right _ (by omega)
theorem nI_lt {d : List Nat} (h : DG d) (hl : d.length ≤ 300) : 0 ≤ nI (S d) ∧ nI (S d) < 10 ^ 400 := by
  rw [nI_dg h hl]
  have h1 := val_lt d 0 (dg_all h.2)
  refine ⟨by omega, ?_⟩
  have h2 : (10 : Nat) ^ d.length ≤ 10 ^ 400 := Nat.pow_le_pow_right (by decide) (by omega)
  have h3 : digitsVal d < 10 ^ 400 := by
    have : digitsVal d < (0 + 1) * 10 ^ d.length := h1
    omega
  have h4 : ((digitsVal d : Nat) : Int) < ((10 ^ 400 : Nat) : Int) := by exact_mod_cast h3
  have h5 : ((10 ^ 400 : Nat) : Int) = (10 : Int) ^ 400 := by rw [Int.natCast_pow]; rfl
  rw [← h5]; exact h4
theorem lz_head {d : List Nat} (h : DG d) (hz : lz (S d) = false) : d = [48] ∨ ∃ c r, d = c :: r ∧ 49 ≤ c := by
  match d, h with
  | c :: r, h =>
    have hc := dg_all h.2 c (List.mem_cons_self ..)
    by_cases q : c = 48
    · subst q
      left
      rw [lz_eq (fun k hk => okc_lt (dg_okc (h.2 k hk))) (by simp), item0, sZero, pl_eq] at hz
      have e1 : ((48 :: r).all dg) = true := List.all_eq_true.mpr h.2
      rw [e1] at hz
      cases r with
      | nil => rfl
      | cons a r =>
        exfalso
        have e2 : decide ((1 : Int) < (S (48 :: a :: r)).length) = true := decide_eq_true (by rw [S_len]; simp only [List.length_cons]; omega)
        rw [e2] at hz
        simp at hz
    · exact .inr ⟨c, r, rfl, by omega⟩
theorem toNat_ofNat {d : List Nat} (h : AllDigits d) : (d.map Char.ofNat).map Char.toNat = d := by
  rw [List.map_map]
  have : ∀ c ∈ d, (Char.toNat ∘ Char.ofNat) c = c := fun c hc => by
    have := h c hc
    have q : ∀ k, k < 128 → Char.toNat (Char.ofNat k) = k := by decide
    exact q c (by omega)
  exact (List.map_congr_left this).trans (List.map_id d)
theorem tS_eq {d : List Nat} (h : DG d) (hl : d.length ≤ 300) (hz : lz (S d) = false) : tS (nI (S d)) = S d := by
  rw [nI_dg h hl]
  unfold tS
  rw [← S_of (PySem.Str.ofString _), PySem.W.KIN.signs_num, S_inj, toDigits_digitsVal (d.length - 1) d (by have := h.len; omega) (dg_all h.2) ?_, toNat_ofNat (dg_all h.2)]
  rcases lz_head h hz with rfl | q
  · exact .inl rfl
  · exact .inr q
/-! the machine -/
theorem all_back {p : Bool} {l : List Nat} {g : G} (h : sAll (sX p) l = some g) : ∃ ds op ob, Form l ds op ob ∧ g = gOf ds op ob ∧ (p = false → ds.length = 3 ∧ op ≠ some [] ∧ ob ≠ some []) := by
  cases p with
  | true =>
    obtain ⟨ds, op, ob, F⟩ := all4_bwd h
    have := all4_fwd F
    exact ⟨ds, op, ob, F, Option.some.inj (h.symm.trans this), fun q => by cases q⟩
  | false =>
    obtain ⟨ds, op, ob, F, h3, h4, h5⟩ := all3_bwd h
    have := all3_fwd F h3 h4 h5
    exact ⟨ds, op, ob, F, Option.some.inj (h.symm.trans this), fun q => ⟨h3, h4, h5⟩⟩
theorem Form.pos {l : List Nat} {ds : List (List Nat)} {op ob : Option (List Nat)} (F : Form l ds op ob) : 1 ≤ l.length ∧ (ds.length = 3 → 5 ≤ l.length) := by
  rw [F.eq, List.length_append]
  have hs := jn_sum 46 F.ne
  have h1 : ∀ {ps : List (List Nat)}, (∀ d ∈ ps, d ≠ [] ∧ ∀ c ∈ d, dg c = true) → ps.length ≤ (ps.map fun p => p.length).sum := by
    intro ps
    induction ps with
    | nil => intro _; exact Nat.le_refl _
    | cons q r ih =>
      intro h
      have h1 := ih fun d hd => h d (List.mem_cons_of_mem _ hd)
      have h2 : 1 ≤ q.length := List.length_pos_iff.mpr (h q (List.mem_cons_self ..)).1
      rw [List.length_cons, List.map_cons, List.sum_cons]; omega
  have h2 := h1 F.num
  have h3 : 1 ≤ ds.length := List.length_pos_iff.mpr F.ne
  omega
theorem Asc.run {l : List Nat} (h : Asc l) (p : Bool) : RunOk p (S l) := by
  have hok : ∀ g, sAll (sX p) l = some g → okG g = true := fun g q => by
    obtain ⟨ds, op, ob, F, rfl, _⟩ := all_back q
    exact (groups_of F).2.2
  have hsz : (S l).cps.size ≤ 300 := by rw [show (S l).cps.size = l.length from S_len l]; exact h.len
  cases p with
  | true =>
    refine run_of (hl := 1) (by decide) (all4 h.arr hsz) (fm4 _) hok fun q => ?_
    show sAll (sX true) l = none
    cases e : sAll (sX true) l with
    | none => rfl
    | some g =>
      obtain ⟨ds, op, ob, F, _, _⟩ := all_back e
      have := F.pos.1
      rw [S_len] at q; omega
  | false =>
    refine run_of (hl := 5) (by decide) (all3 h.arr hsz) (fm3 _) hok fun q => ?_
    show sAll (sX false) l = none
    cases e : sAll (sX false) l with
    | none => rfl
    | some g =>
      obtain ⟨ds, op, ob, F, _, h3⟩ := all_back e
      have := F.pos.2 (h3 rfl).1
      rw [S_len] at q; omega
/-! the law's reading -/
theorem slice_all (l : List Nat) : Txt.slice (S l) (some (-1 + 1)) none = S l := slice_from (a := []) (b := l)
theorem aft_sub (l : List Nat) (c : Nat) : ∃ l', aft (S l) (S [c]) = S l' ∧ (∀ k ∈ l', k ∈ l) ∧ l'.length ≤ l.length := by
  unfold aft
  by_cases h : c ∈ l
  · obtain ⟨a, b, rfl, ha⟩ := cut_first h
    have e : a ++ c :: b = (a ++ [c]) ++ b := by simp
    refine ⟨b, ?_, fun k hk => by simp [hk], by simp; omega⟩
    rw [find_some ha, e, show ((a.length : Int) + 1) = (((a ++ [c]).length : Nat) : Int) by simp]
    exact slice_from
  · rw [find_none h, slice_all]; exact ⟨l, rfl, fun k hk => hk, Nat.le_refl _⟩
theorem bef_sub (l : List Nat) (c : Nat) : ∃ l', bef (S l) (S [c]) = S l' ∧ (∀ k ∈ l', k ∈ l) ∧ l'.length ≤ l.length := by
  unfold bef
  by_cases h : c ∈ l
  · obtain ⟨a, b, rfl, ha⟩ := cut_first h
    exact ⟨a, by rw [find_some ha]; exact slice_to, fun k hk => by simp [hk], by simp⟩
  · rw [find_none h]
    by_cases hn : l = []
    · subst hn; exact ⟨[], by decide, fun k hk => hk, Nat.le_refl _⟩
    · have h1 : 1 ≤ l.length := List.length_pos_iff.mpr hn
      refine ⟨_, (sliceText_to_neg (x := S l) (j := -1) (by omega) (by rw [S_len]; omega)), fun k hk => ?_, ?_⟩
      · exact List.mem_of_mem_take hk
      · rw [List.length_take]; show min _ l.length ≤ _; omega
theorem Asc.read {l : List Nat} (h : Asc l) : ReadOk (S l) := by
  have A : ∀ {l : List Nat} {q : PySem.Str} {c : Nat}, Asc l → q = aft (S l) (S [c]) → ∃ l', q = S l' ∧ Asc l' := fun {l q c} h e => by
    obtain ⟨l', e', h1, h2⟩ := aft_sub l c
    exact ⟨l', e.trans e', h.sub h1 h2⟩
  have B : ∀ {l : List Nat} {q : PySem.Str} {c : Nat}, Asc l → q = S l ∨ q = bef (S l) (S [c]) → ∃ l', q = S l' ∧ Asc l' := fun {l q c} h e => by
    rcases e with rfl | e
    · exact ⟨l, rfl, h⟩
    · obtain ⟨l', e', h1, h2⟩ := bef_sub l c
      exact ⟨l', e.trans e', h.sub h1 h2⟩
  refine ⟨by rw [S_len]; exact h.len, fun q e => ?_, fun t e => ?_, fun t u e e' => ?_⟩
  · rw [sPlus] at e
    obtain ⟨l', rfl, h'⟩ := A h e
    exact h'.split
  · rw [sPlus] at e
    obtain ⟨l', rfl, h'⟩ := B h e
    refine ⟨by rw [S_len]; exact h'.len, fun q e => ?_⟩
    rw [sMinus] at e
    obtain ⟨l'', rfl, h''⟩ := A h' e
    exact h''.split
  · rw [sPlus] at e
    obtain ⟨l', rfl, h'⟩ := B h e
    rw [sMinus] at e'
    obtain ⟨l'', rfl, h''⟩ := B h' e'
    refine ⟨h''.split.1, fun y hy => ⟨h''.split.2 y hy, fun hp => ?_⟩⟩
    obtain ⟨ps, hne, hf, e3, hs⟩ := pieces 46 l''
    rw [sDot, hs] at hy
    obtain ⟨p, hp', rfl⟩ := List.mem_map.mp hy
    exact isNum_of (plS_dg hp) (h''.piece e3 hp').len
theorem id_ok {p : List Nat} (h : Asc p) : IdOk (S p) := by
  refine ⟨h.str, by rw [S_len]; have := h.len; omega, fun q => ?_⟩
  rw [isdigit_eq fun c hc => (h.sign c hc).1, ← pl_eq] at q
  rw [num_eq (plS_dg q) h.len]; rfl
end Mine
end
section
open PySem PySem.W PyProof.Rows PySem.Spec PySem.Calls
set_option maxRecDepth 100000
set_option linter.unusedVariables false
set_option linter.unusedSimpArgs false
noncomputable section
namespace Mine
open Builtin Builtin.Str PySem.StrLaws PySem.NumText
theorem DG.at {l : List Nat} {ds : List (List Nat)} {op ob : Option (List Nat)} (F : Form l ds op ob) {k : Nat} {d : List Nat} (h : ds[k]? = some d) : DG d := F.num d (List.mem_of_getElem? h)
/-- the names of a tail -/
def nms : Option (List Nat) → List PySem.Str
  | none => []
  | some p => if p = [] then [] else Txt.split (S p) (PySem.Str.ofString ".")
theorem ids_td {a : Bool} {o : Option (List Nat)} {d : Dat} (h : TD a o = some d) : IdsD d (nms o) ∧ (nms o).all (okI a) = true := by
  cases o with
  | none => cases h; exact ⟨.none, rfl⟩
  | some p =>
    have h' : idsD a (S p) = some d := h
    unfold nms
    dsimp only
    by_cases hp : p = []
    · subst hp
      rw [idsD_nil] at h'; cases h'
      rw [if_pos rfl]; exact ⟨.tup (l := []), rfl⟩
    · rw [if_neg hp]
      unfold idsD at h'
      rw [if_neg (by rw [sNil, S_beq]; simpa using hp)] at h'
      split at h'
      · rename_i q; cases h'; exact ⟨.tup, q⟩
      · cases h'
theorem idsD_no {l : List PySem.Str} (h : IdsD .none l) : l = [] := by
  generalize e : Dat.none = d at h
  cases h with
  | none => rfl
  | tup => exact Dat.noConfusion e
theorem ids_pre {d : Dat} {op ob : Option (List Nat)} {l : List PySem.Str} (h : IdsD d l) (hd : d = .none ∨ op.isNone = false ∨ ob.isSome = false) (hn : d = .none → l = []) : IdsD (preD op ob d) l := by
  unfold preD
  split
  · rename_i q
    rw [Bool.and_eq_true] at q
    rcases hd with hd | hd | hd
    · rw [hn hd]; exact .tup (l := [])
    · rw [hd] at q; exact absurd q.1 (by decide)
    · rw [hd] at q; exact absurd q.2 (by decide)
  · exact h
theorem Asc.tail {p : List Nat} (h : Asc p) : IdsOk (nms (some p)) ∧ ∀ y ∈ nms (some p), IdOk y := by
  unfold nms
  dsimp only
  by_cases hp : p = []
  · rw [if_pos hp]; exact ⟨⟨fun x hx => (by cases hx), by decide, by show (reprText _).length ≤ _; decide +kernel, by decide⟩, fun y hy => (by cases hy)⟩
  · rw [if_neg hp]
    have s := h.split.1
    refine ⟨⟨s.each, s.sum, s.join, s.many⟩, fun y hy => ?_⟩
    obtain ⟨ps, hne, hf, e, hs⟩ := pieces 46 p
    rw [sDot, hs] at hy
    obtain ⟨q, hq, rfl⟩ := List.mem_map.mp hy
    exact id_ok (h.piece e hq)
theorem tail_all {o : Option (List Nat)} (h : ∀ p, o = some p → Asc p) : IdsOk (nms o) ∧ (∀ y ∈ nms o, IdOk y) ∧ (joinD (nms o)).length ≤ 10000 := by
  cases o with
  | none => exact ⟨⟨fun x hx => (by cases hx), by decide, by show (reprText _).length ≤ _; decide +kernel, by decide⟩, fun y hy => (by cases hy), by show (Txt.join _ []).length ≤ _; decide +kernel⟩
  | some p =>
    have := (h p rfl).tail
    refine ⟨this.1, this.2, ?_⟩
    unfold nms joinD
    dsimp only
    by_cases hp : p = []
    · rw [if_pos hp]; decide +kernel
    · rw [if_neg hp]
      obtain ⟨ps, hne, hf, e, hs⟩ := pieces 46 p
      rw [sDot, hs, txt_join, ← e, S_len]
      have := (h p rfl).len; omega
theorem strOk_of {y : PySem.Str} (h : AsciiS y) : PyData.strOk y = true := by
  unfold PyData.strOk
  rw [← Array.all_toList, List.all_eq_true]
  intro c hc
  have := h c hc
  exact decide_eq_true (by omega)
theorem kq_tup {l : List PySem.Str} (h : ∀ y ∈ l, IdOk y) : kqdOk 9 (.tuple (l.map .str)) = true := by
  show (l.map Dat.str).all (kqdOk 8) = true
  rw [List.all_eq_true]
  intro d hd
  obtain ⟨y, hy, rfl⟩ := List.mem_map.mp hd
  exact strOk_of (h y hy).1
theorem kq_ids {d : Dat} {l : List PySem.Str} (h : IdsD d l) (ho : ∀ y ∈ l, IdOk y) : kqdOk 9 d = true := by
  cases h with
  | none => rfl
  | tup => exact kq_tup ho
/-! a text that is taken -/
structure Good (l : List Nat) (ds : List (List Nat)) (op ob : Option (List Nat)) (pd bd : Dat) : Prop where
  asc : Asc l
  F : Form l ds op ob
  z : ds.any (fun d => lz (S d)) = false
  tp : TD false op = some pd
  tb : TD true ob = some bd
def mid (ds : List (List Nat)) (k : Nat) : Dat := oI (oS (ds[k]?))
def n0 (ds : List (List Nat)) : Int := nI (S (ds.getD 0 []))
section
variable {l : List Nat} {ds : List (List Nat)} {op ob : Option (List Nat)} {pd bd : Dat} (g : Good l ds op ob pd bd)
include g
theorem Good.part {p : List Nat} (h : op = some p ∨ ob = some p) : Asc p := by
  have e := g.F.eq
  refine g.asc.sub (fun k hk => ?_) ?_
  · rw [e]
    rcases h with rfl | rfl
    · simp [opt, hk]
    · simp [opt, hk]
  · rw [e]
    rcases h with rfl | rfl
    · simp [opt]; omega
    · simp [opt]; omega
theorem Good.dg {k : Nat} {d : List Nat} (h : ds[k]? = some d) : DG d ∧ d.length ≤ 300 ∧ lz (S d) = false := by
  refine ⟨.at g.F h, ?_, ?_⟩
  · have h1 := jn_len 46 (List.mem_of_getElem? h)
    have h2 := g.asc.len
    rw [g.F.eq, List.length_append] at h2; omega
  · have := g.z
    rw [List.any_eq_false] at this
    exact Bool.eq_false_iff.mpr (this d (List.mem_of_getElem? h))
theorem Good.head : ∃ d r, ds = d :: r := by
  match ds, g.F.ne with
  | d :: r, _ => exact ⟨d, r, rfl⟩
theorem Good.zero : ds[0]? = some (ds.getD 0 []) := by
  obtain ⟨d, r, rfl⟩ := g.head
  rfl
theorem Good.nums : numsD ds = [.int (n0 ds), mid ds 1, mid ds 2] := by
  rcases nth_eq ds g.F.ne with h | h
  · exact h
  · have := g.F.le; omega
theorem Good.n0 : 0 ≤ n0 ds ∧ n0 ds < 10 ^ 400 := nI_lt (g.dg g.zero).1 (g.dg g.zero).2.1
theorem Good.mid (k : Nat) : NumD (mid ds k) := by
  unfold Mine.mid
  cases h : ds[k]? with
  | none => exact .inl rfl
  | some d => exact .inr ⟨_, rfl, nI_lt (g.dg h).1 (g.dg h).2.1⟩
theorem Good.tailP : IdsOk (nms op) ∧ (∀ y ∈ nms op, IdOk y) ∧ (joinD (nms op)).length ≤ 10000 := tail_all fun p h => g.part (.inl h)
theorem Good.tailB : IdsOk (nms ob) ∧ (∀ y ∈ nms ob, IdOk y) ∧ (joinD (nms ob)).length ≤ 10000 := tail_all fun p h => g.part (.inr h)
theorem Good.idsP : IdsD (preD op ob pd) (nms op) := by
  refine ids_pre (ids_td g.tp).1 ?_ fun q => ?_
  · cases e : op with
    | none => have := g.tp; rw [e] at this; cases this; exact .inl rfl
    | some p => exact .inr (.inl rfl)
  · have h1 := (ids_td g.tp).1
    rw [q] at h1
    exact idsD_no h1
theorem Good.idsB : IdsD bd (nms ob) := (ids_td g.tb).1
theorem Good.pos : 0 < (S l).length := by rw [S_len]; exact g.F.pos.1
theorem Good.some_num {k : Nat} : ∀ y, oS (ds[k]?) = some y → isNum y := fun y h => by
  cases e : ds[k]? with
  | none => rw [e] at h; cases h
  | some d => rw [e] at h; cases h; exact isNum_of (g.dg e).1 (g.dg e).2.1
/-- parse -/
theorem Good.parse (w : World) {args : List D} {kw : List (PySem.Str × D)} (hf : PForm true (S l) args kw) : FN w 2 false 351 args kw (some (dt [.int (Mine.n0 ds), Mine.mid ds 1, Mine.mid ds 2, preD op ob pd, bd])) := by
  have hg := groups_of g.F
  have h := fn_parse_yes w hf (by rw [S_len]; exact g.asc.len) g.pos g.asc.shown (g.asc.run true) (g := gOf ds op ob) (all4_fwd g.F) hg.2.1 hg.1 (isNum_of (g.dg g.zero).1 (g.dg g.zero).2.1) g.some_num g.some_num
    (fun y e => by
      cases e' : op with
      | none => rw [e'] at e; cases e
      | some p => rw [e'] at e; cases e; exact (g.part (.inl e')).split.1)
    (fun y e => by
      cases e' : ob with
      | none => rw [e'] at e; cases e
      | some p => rw [e'] at e; cases e; exact (g.part (.inr e')).split.1) (fun _ => rfl) (fun _ => rfl)
  rw [ps_form g.F, g.z, if_neg (by decide), g.tp, g.tb, g.nums] at h
  exact h
/-- parse of a whole version -/
theorem Good.full (w : World) {args : List D} {kw : List (PySem.Str × D)} (hf : PForm false (S l) args kw) (h3 : ds.length = 3) (h4 : op ≠ some []) (h5 : ob ≠ some []) : FN w 2 false 351 args kw (some (dt [.int (Mine.n0 ds), Mine.mid ds 1, Mine.mid ds 2, orT pd, orT bd])) := by
  have hg := groups_of g.F
  have hk : ∀ {k : Nat}, k < 3 → oS (ds[k]?) = none → False := fun {k} hk e => by
    rw [List.getElem?_eq_getElem (by omega)] at e; cases e
  have h := fn_parse_yes w hf (by rw [S_len]; exact g.asc.len) g.pos g.asc.shown (g.asc.run false) (g := gOf ds op ob) (all3_fwd g.F h3 h4 h5) hg.2.1 hg.1 (isNum_of (g.dg g.zero).1 (g.dg g.zero).2.1) g.some_num g.some_num
    (fun y e => by
      cases e' : op with
      | none => rw [e'] at e; cases e
      | some p => rw [e'] at e; cases e; exact (g.part (.inl e')).split.1)
    (fun y e => by
      cases e' : ob with
      | none => rw [e'] at e; cases e
      | some p => rw [e'] at e; cases e; exact (g.part (.inr e')).split.1) (fun q => (hk (by decide) q).elim) (fun q => (hk (by decide) q).elim)
  rw [ps_form g.F, g.z, if_neg (by decide), g.tp, g.tb, g.nums] at h
  exact h
theorem Good.notfull (w : World) {args : List D} {kw : List (PySem.Str × D)} (hf : PForm false (S l) args kw) (h : ¬ (ds.length = 3 ∧ op ≠ some [] ∧ ob ≠ some [])) : FN w 2 false 351 args kw none := by
  refine fn_parse_no w hf (by rw [S_len]; exact g.asc.len) g.asc.shown (g.asc.run false) ?_
  show sAll (sX false) l = none
  cases e : sAll (sX false) l with
  | none => rfl
  | some x =>
    obtain ⟨ds', op', ob', F', _, q⟩ := all_back e
    obtain ⟨rfl, rfl, rfl⟩ := g.F.uniq F'
    exact absurd (q rfl) h
/-- the law's reading -/
theorem Good.read (w : World) : FN w 2 false 512 [.dat (.str (S l))] [] (some (dt [.tuple [.int (Mine.n0 ds), Mine.mid ds 1, Mine.mid ds 2, preD op ob pd, bd], .bool (bareO ob || bareO op)])) := by
  have h := fn_read w g.asc.read
  have e : rdD (S l) = .tuple [.tuple [.int (Mine.n0 ds), Mine.mid ds 1, Mine.mid ds 2, preD op ob pd, bd], .bool (bareO ob || bareO op)] := by
    unfold rdD
    rw [rd_form g.F, g.z, if_neg (by decide), g.tp, g.tb, g.nums]
    rfl
  rw [e] at h
  exact h
abbrev vG (ds : List (List Nat)) (pre bu : Dat) (p : Bool) : D := verD (.int (Mine.n0 ds)) (Mine.mid ds 1) (Mine.mid ds 2) pre bu (.bool p)
/-- Version(text, partial=True) -/
theorem Good.version (w : World) : CN w 3 true (.ref 457) [.dat (.str (S l))] [("partial", db true)] (some (vG ds (preD op ob pd) bd true)) :=
  ver_text w (.kw (p := true)) (g.parse w .pos) g.idsP g.idsB g.tailP.2.1 g.tailB.2.1 g.tailP.1.many g.tailB.1.many
theorem Good.whole (w : World) (h3 : ds.length = 3) (h4 : op ≠ some []) (h5 : ob ≠ some []) : CN w 3 true (.ref 457) [.dat (.str (S l))] [] (some (vG ds (orT pd) (orT bd) false)) := by
  have o : ∀ {d : Dat} {l : List PySem.Str}, IdsD d l → IdsD (orT d) l := fun h => by
    cases h with
    | none => exact .tup (l := [])
    | tup => exact .tup
  exact ver_text w (.dflt (p := false) rfl) (g.full w .pos h3 h4 h5) (o (ids_td g.tp).1) (o g.idsB) g.tailP.2.1 g.tailB.2.1 g.tailP.1.many g.tailB.1.many
end
end Mine
end
end
section
open PySem PySem.W PyProof.Rows PySem.Spec PySem.Calls
set_option maxRecDepth 100000
set_option linter.unusedVariables false
noncomputable section
namespace Mine
open Builtin Builtin.Str PySem.StrLaws
/-! text.replace('-+', '+', 1) -/
def dp : PySem.Str := PySem.Str.ofString "-+"
theorem dp_eq : dp = S [45, 43] := by decide +kernel
def rep1 (x : PySem.Str) : PySem.Str := if (occurrences x dp 0 x.length 1).isEmpty = true then x else glued (PySem.Str.ofString "+") (partsBetween x (occurrences x dp 0 x.length 1) 2)
theorem at_two {l : List Nat} {i : Nat} : At (S l) (S [45, 43]) (S l).length i ↔ (l[i]? = some 45 ∧ l[i + 1]? = some 43) := by
  unfold At
  rw [subAt_eq, S_len, S_len, S_list]
  show i + 2 ≤ l.length ∧ ((l.drop i).take 2 == [45, 43]) = true ↔ _
  rw [beq_iff_eq]
  constructor
  · rintro ⟨h1, h2⟩
    have e1 : ((l.drop i).take 2)[0]? = some 45 := by rw [h2]; rfl
    have e2 : ((l.drop i).take 2)[1]? = some 43 := by rw [h2]; rfl
    rw [List.getElem?_take_of_lt (by decide), List.getElem?_drop] at e1 e2
    exact ⟨e1, e2⟩
  · rintro ⟨h1, h2⟩
    have hl : i + 1 < l.length := by
      rcases Nat.lt_or_ge (i + 1) l.length with q | q
      · exact q
      · rw [List.getElem?_eq_none q] at h2; cases h2
    refine ⟨by omega, List.ext_getElem? fun k => ?_⟩
    match k with
    | 0 => rw [List.getElem?_take_of_lt (by decide), List.getElem?_drop]; exact h1
    | 1 => rw [List.getElem?_take_of_lt (by decide), List.getElem?_drop]; exact h2
    | k + 2 => rw [List.getElem?_eq_none (by rw [List.length_take]; omega), List.getElem?_eq_none (by simp)]
theorem rep_none {l : List Nat} (h : ∀ i, l[i]? = some 45 → l[i + 1]? = some 43 → False) : rep1 (S l) = S l := by
  unfold rep1
  rw [dp_eq]
  rcases occ_head (S l) (S [45, 43]) 1 (Nat.le_refl _) with ⟨e, _⟩ | ⟨i, r, e, hA, _⟩
  · rw [e]; exact if_pos rfl
  · have := at_two.mp hA
    exact (h i this.1 this.2).elim
theorem rep_hit {a b : List Nat} (ha : 43 ∉ a) : rep1 (S (a ++ 45 :: 43 :: b)) = S (a ++ 43 :: b) := by
  unfold rep1
  rw [dp_eq]
  rcases occ_head (S (a ++ 45 :: 43 :: b)) (S [45, 43]) 1 (Nat.le_refl _) with ⟨e, hn⟩ | ⟨i, r, e, hA, hn⟩
  · exfalso
    refine hn a.length (at_two.mpr ⟨?_, ?_⟩)
    · simp
    · rw [List.getElem?_append_right (by omega)]
      have : a.length + 1 - a.length = 1 := by omega
      rw [this]; rfl
  · have hr : r = [] := by
      have := occ_length_le (S (a ++ 45 :: 43 :: b)) (S [45, 43]) 0 (S (a ++ 45 :: 43 :: b)).length 1
      rw [e] at this
      cases r with
      | nil => rfl
      | cons => simp at this
    subst hr
    have h1 := at_two.mp hA
    have hi : i = a.length := by
      rcases Nat.lt_trichotomy (i + 1) a.length with q | q | q
      · have := h1.2
        rw [List.getElem?_append_left q] at this
        exact absurd (List.mem_of_getElem? this) ha
      · have := h1.2
        rw [q, List.getElem?_append_right (Nat.le_refl _), Nat.sub_self] at this
        cases this
      · rcases Nat.lt_trichotomy i a.length with q' | q' | q'
        · omega
        · exact q'
        · exfalso
          refine hn a.length q' (at_two.mpr ⟨?_, ?_⟩)
          · simp
          · rw [List.getElem?_append_right (by omega)]
            have : a.length + 1 - a.length = 1 := by omega
            rw [this]; rfl
    rw [e, hi, if_neg (show ¬ (List.isEmpty [a.length]) = true from fun q => by cases q)]
    show glued (PySem.Str.ofString "+") [strSub (S (a ++ 45 :: 43 :: b)) 0 a.length, strSub (S (a ++ 45 :: 43 :: b)) (a.length + 2) (S (a ++ 45 :: 43 :: b)).length] = _
    have e1 : strSub (S (a ++ 45 :: 43 :: b)) 0 a.length = S a := by
      refine PySem.Str.ext' (Array.toList_inj.mp ?_)
      show ((a ++ 45 :: 43 :: b).toArray.extract 0 a.length).toList = a
      simp
    have e2 : strSub (S (a ++ 45 :: 43 :: b)) (a.length + 2) (S (a ++ 45 :: 43 :: b)).length = S b := by
      refine PySem.Str.ext' (Array.toList_inj.mp ?_)
      show ((a ++ 45 :: 43 :: b).toArray.extract (a.length + 2) (S (a ++ 45 :: 43 :: b)).length).toList = b
      rw [S_len, Array.toList_extract]
      rw [List.extract_eq_take_drop]
      have e3 : (a ++ 45 :: 43 :: b).drop (a.length + 2) = b := by
        have : a ++ 45 :: 43 :: b = (a ++ [45, 43]) ++ b := by simp
        rw [this, List.drop_left' (by simp)]
      show List.take _ ((a ++ 45 :: 43 :: b).drop (a.length + 2)) = b
      rw [e3, List.take_of_length_le]
      simp only [List.length_append, List.length_cons]; omega
    rw [e1, e2, sPlus]
    rw [glued_eq_join]
    have := join_S 43 [a, b]
    exact this.trans (by rw [jn_cons 43 a (by simp)]; rfl)
section
variable {c : Cx} {m : PySem.Str → Option Value} {news news' : Led} {s s' : Shared} {ρ ρ' : Rho}
theorem rep_len (x : PySem.Str) (hx : x.length ≤ 1000) : tooLong (x.length + (occurrences x dp 0 x.length 1).length * (PySem.Str.ofString "+").length) = false := by
  have h1 := occ_length_le x dp 0 x.length 1
  have h2 : (occurrences x dp 0 x.length 1).length * (PySem.Str.ofString "+").length ≤ 1 * 1 := Nat.mul_le_mul h1 (by decide)
  unfold tooLong sizeLine
  exact decide_eq_false (by omega)
theorem gives_rep1 (x : PySem.Str) (t u v q : Tok) (hx : x.length ≤ 1000) (hu : u ≠ 0) (hv : v ≠ 0) (huv : u ≠ v) :
    Gives (Builtin.«str.replace» ⟨[.str x t, .str dp u, .str (PySem.Str.ofString "+") v, .int 1 q], []⟩) (if (occurrences x dp 0 x.length 1).isEmpty = true then .val (.str x t) else .str (glued (PySem.Str.ofString "+") (partsBetween x (occurrences x dp 0 x.length 1) 2))) := by
  have hl := rep_len x hx
  have e : (Builtin.«str.replace» ⟨[.str x t, .str dp u, .str (PySem.Str.ofString "+") v, .int 1 q], []⟩) = (if ((occurrences x dp 0 x.length 1).isEmpty || (dp.length == 0 && (PySem.Str.ofString "+").length == 0)) = true then (do rule "str.replace.nothing"; ret (.str x t)) else
          (do let same ← isSame (.str dp u) (.str (PySem.Str.ofString "+") v)
              if same = true then (do rule "str.replace.old-is-new"; ret (.str x t)) else
              if tooLong (x.length + (occurrences x dp 0 x.length 1).length * (PySem.Str.ofString "+").length) = true then unsupported "str.replace:memory" else
              retStr (glued (PySem.Str.ofString "+") (partsBetween x (occurrences x dp 0 x.length 1) dp.length)))) := rfl
  rw [e]
  have e2 : ((occurrences x dp 0 x.length 1).isEmpty || (dp.length == 0 && (PySem.Str.ofString "+").length == 0)) = (occurrences x dp 0 x.length 1).isEmpty := by
    rw [show (dp.length == 0 && (PySem.Str.ofString "+").length == 0) = false by decide, Bool.or_false]
  rw [e2]
  cases hc : (occurrences x dp 0 x.length 1).isEmpty
  · rw [isSame_str_other dp _ u v (by simp [hu, hv]) (by simp [huv]) (by decide +kernel), hl]
    exact .of_eq rfl
  · exact .rule (.of_eq rfl)
theorem rep_fits (x : PySem.Str) (hx : x.length ≤ 1000) : (glued (PySem.Str.ofString "+") (partsBetween x (occurrences x dp 0 x.length 1) 2)).length ≤ sizeLine := by
  have h1 := occ_length_le x dp 0 x.length 1
  have hy : (glued dp (partsBetween x (occurrences x dp 0 x.length 1) dp.length)).length = x.length := by rw [StrLaws.glued_between_self]
  rw [size_glued, length_partsBetween, Nat.add_sub_cancel] at hy
  rw [size_glued, length_partsBetween, Nat.add_sub_cancel, sizeLine_eq]
  have h2 : (occurrences x dp 0 x.length 1).length * (PySem.Str.ofString "+").length ≤ 1 * 1 := Nat.mul_le_mul h1 (by decide)
  have e : dp.length = 2 := by decide
  rw [e] at hy
  omega
theorem call_rep1 {x : PySem.Str} {t u v q : Tok} (hx : x.length ≤ 1000) (hu : u ≠ 0) (hv : v ≠ 0) (huv : u ≠ v) {Q : Value → Shared → Prop} {E : Value → Shared → Prop} (S : St c m news s) (hQ : VPost c m news (some (ds (rep1 x))) Q E) :
    wpAny c.M c.A (call (.builtin "str.replace") [.str x t, .str dp u, .str (PySem.Str.ofString "+") v, .int 1 q]) Q E s := by
  refine call_gives F.slot_str_replace (typeIs_str _ _ _) F.entry_str_replace (F.args_str_replace_4 _ _ _ _) (gives_rep1 x t u v q hx hu hv huv) ?_
  unfold rep1 at hQ
  cases hc : (occurrences x dp 0 x.length 1).isEmpty
  · rw [hc, if_neg (by decide)] at hQ
    rw [if_neg (by decide)]
    exact ⟨rep_fits x hx, hQ.ok (List.Subset.refl _) S.toks2 (.dat (.str _ _))⟩
  · rw [hc, if_pos rfl] at hQ
    rw [if_pos rfl]
    exact hQ.ok (List.Subset.refl _) S (.dat (.str _ _))
/-- an expression behind which a token is spent -/
def EVt (c : Cx) (ρ : Rho) (e : Expr) (d : D) : Prop :=
  ∀ m news s Q E, St c m news s → Loc ρ m news → (∀ v news' s', news ⊆ news' → St c m news' s' → DIn news' v d → 1 ≤ s'.toks → Q v s') → wpAny c.M c.A (eval e c.en) Q E s
theorem evt_int {i : Int} {k : Nat} {pos : Pos} : EVt c ρ (.Constant (.int i) k pos) (di i) := fun _ _ s _ _ S _ hQ => wpAny_Constant_int (hQ _ _ _ (List.Subset.refl _) S.toks (.dat (.int i _)) (by show 1 ≤ s.toks + 1; omega))
theorem evt_sub {value slice : Expr} {pos : Pos} {d₁ d₂ r : D} (h1 : EV c ρ value (some d₁)) (h2 : EVt c ρ slice d₂) (hs : SUB c value slice d₁ d₂ r) : EVt c ρ (.Subscript value slice pos) r := by
  intro m news s Q E S hρ hQ
  refine Subscript_ (h1 m news s _ _ S hρ fun v n₁ s₁ hn₁ S₁ hv => h2 m n₁ s₁ _ _ S₁ (hρ.mono hn₁) fun i n₂ s₂ hn₂ S₂ hi ht => wpAny_with_toks ht ?_)
  exact hs m n₂ s₂ v i _ _ S₂ (hv.mono hn₂) hi fun v' n' s' hn S' hv' ht' => hQ _ _ _ (fun _ hp => hn (hn₂ (hn₁ hp))) S' hv' ht'
/-- x.replace('-+', '+', 1) if t else x -/
theorem ev_back {l r : Expr} {op : CmpOp} {tp tp' ap pos pos' p1 p2 p3 cp : Pos} {k1 k2 k3 : Nat} {x y : PySem.Str} {d₁ d₂ : D} {b : Bool} (h1 : EVt c ρ l d₁) (h2 : EV c ρ r (some d₂)) (ho : OP c (compareOp op) d₁ d₂ (some (db b))) (hx : x.length ≤ 1000)
    (hv : EV c ρ (.Name "text" tp) (some (ds x))) (hv' : EV c ρ (.Name "text" tp') (some (ds x))) (hy : y = if b = true then rep1 x else x) {pl : Sem Bool}
    (he : eval (.Call (.Attribute (.Name "text" tp) "replace" ap) [.Constant (.str dp) k1 p1, .Constant (.str "+") k2 p2, .Constant (.int 1) k3 p3] [] pos) c.en = (do
      let ov ← eval (.Name "text" tp) c.en
      standAt ap.atName
      let (f, first) ← holding [ov] (getMethod ov "replace" pl)
      callWith pos f first (backTo pos (starEach [.Constant (.str dp) k1 p1, .Constant (.str "+") k2 p2, .Constant (.int 1) k3 p3] c.en)) (backToKw pos (keywordEach [] c.en))))
    (hm : behindInMarks op r = false := by with_unfolding_all rfl) :
    EV c ρ (.IfExp (.Compare l [op] [r] cp) (.Call (.Attribute (.Name "text" tp) "replace" ap) [.Constant (.str dp) k1 p1, .Constant (.str "+") k2 p2, .Constant (.int 1) k3 p3] [] pos) (.Name "text" tp') pos') (some (ds y)) := by
  intro m news s Q E S hρ hQ
  refine wpAny_IfExp (wpAny_isTrue_Compare1 (h1 m news s _ _ S hρ fun v n₁ s₁ hn₁ S₁ hv0 ht => wpAny_with_toks ht (h2 m n₁ s₁ _ _ S₁ (hρ.mono hn₁) fun u n₂ s₂ hn₂ S₂ hu ht2 => wpAny_with_toks ht2 (ho m n₂ s₂ v u _ _ S₂ (hv0.mono hn₂) hu fun w n₃ s₃ hn₃ S₃ hw ht3 => ?_))) hm)
  cases hw with | dat hw =>
  cases hw
  refine wpAny_truthy_bool ?_
  have hρ3 : Loc ρ m n₃ := hρ.mono fun _ hp => hn₃ (hn₂ (hn₁ hp))
  have hQ3 : VPost c m n₃ (some (ds y)) Q E := hQ.sub fun _ hp => hn₃ (hn₂ (hn₁ hp))
  split
  · rename_i hb
    rw [if_pos hb] at hy
    subst hy
    refine methodCall_KW (wpAny_with_toks ht3 (hv m n₃ s₃ _ _ S₃ hρ3 fun v n₄ s₄ hn₄ S₄ hv4 ht4 => ?_)) he
    cases hv4 with | dat hv4 =>
    cases hv4
    refine PySem.GM.replace ?_
    have ha : EVs c ρ [.Constant (.str dp) k1 p1, .Constant (.str "+") k2 p2, .Constant (.int 1) k3 p3] [ds dp, ds "+", di 1] := evs_cons ev_str (evs_cons ev_str (evs_cons ev_int evs_nil))
    refine callWith_of (P := Keepable c (.builtin "str.replace")) (by rw [ha.plain, (Kws.all (ρ := ρ) (kws := []) (kds := []) kws_nil).2]; rfl) (fun h q => q) ?_
    refine evalArgs_kw2 (Kws.all (ρ := ρ) (kws := []) (kds := []) kws_nil).1 ?_ ha.2.1
    refine wpAny_items_cons (wpAny_Constant_str ?_) ha.2.1
    refine wpAny_items_cons (wpAny_Constant_str ?_) ha.2.2.2.1
    refine wpAny_items_cons (wpAny_Constant_int ?_) ha.2.2.2.2.2.1
    refine wpAny_items_nil ?_
    refine kwAll_nil ⟨keep_plain (fun _ q => by cases q), ?_⟩
    refine call_rep1 hx (by show s₄.toks ≠ 0; omega) (by show s₄.toks + 1 ≠ 0; omega) (by show s₄.toks ≠ s₄.toks + 1; omega) (S₄.toks.toks.toks) (hQ3.sub hn₄)
  · rename_i hb
    rw [if_neg hb] at hy
    subst hy
    exact hv' m n₃ s₃ Q E S₃ hρ3 hQ3
end
end Mine
end
end
section
open PySem PySem.W PyProof.Rows PySem.Spec PySem.Calls
set_option maxRecDepth 100000
set_option linter.unusedVariables false
set_option linter.unusedSimpArgs false
noncomputable section
namespace Mine
open Builtin Builtin.Str PySem.StrLaws PySem.NumText
/-! the text that comes back -/
def opB (op ob : Option (List Nat)) : Option (List Nat) := if (bareO op && ob.isSome) = true then none else op
def backL (ds : List (List Nat)) (op ob : Option (List Nat)) : List Nat := jn 46 ds ++ (opt 45 (opB op ob) ++ opt 43 ob)
theorem td_bare {a : Bool} {d : Dat} (h : TD a (some []) = some d) : d = .tuple [] := by
  change idsD a (S []) = some d at h
  rw [idsD_nil] at h
  exact (Option.some.inj h).symm
theorem joinD_nms {p : List Nat} : joinD (nms (some p)) = S p := by
  unfold nms joinD
  dsimp only
  by_cases hp : p = []
  · rw [if_pos hp, hp]; decide +kernel
  · rw [if_neg hp]
    obtain ⟨ps, hne, hf, e, hs⟩ := pieces 46 p
    rw [sDot, hs, txt_join, ← e]
theorem bare_eq {o : Option (List Nat)} (h : bareO o = true) : o = some [] := by
  match o, h with
  | some [], _ => rfl
section
variable {l : List Nat} {ds : List (List Nat)} {op ob : Option (List Nat)} {pd bd : Dat} (g : Good l ds op ob pd bd)
include g
theorem Good.opB_le : (∀ k ∈ opt 45 (opB op ob), k ∈ opt 45 op) ∧ (opt 45 (opB op ob)).length ≤ (opt 45 op).length := by
  unfold opB
  split
  · exact ⟨fun k hk => (by cases hk), Nat.zero_le _⟩
  · exact ⟨fun k hk => hk, Nat.le_refl _⟩
theorem Good.opB_td : ∃ pd', TD false (opB op ob) = some pd' ∧ preD (opB op ob) ob pd' = preD op ob pd := by
  unfold opB
  by_cases h : (bareO op && ob.isSome) = true
  · rw [if_pos h]
    rw [Bool.and_eq_true] at h
    have e := bare_eq h.1
    subst e
    have e : pd = .tuple [] := by exact td_bare g.tp
    subst e
    refine ⟨.none, rfl, ?_⟩
    unfold preD
    rw [h.2]; rfl
  · rw [if_neg h]; exact ⟨pd, g.tp, rfl⟩
theorem Good.back : ∃ pd', Good (backL ds op ob) ds (opB op ob) ob pd' bd ∧ preD (opB op ob) ob pd' = preD op ob pd := by
  obtain ⟨pd', h1, h2⟩ := g.opB_td
  refine ⟨pd', ⟨g.asc.sub (fun k hk => ?_) ?_, ⟨rfl, g.F.ne, g.F.le, g.F.num, fun p hp => ?_, g.F.bld⟩, g.z, h1, g.tb⟩, h2⟩
  · rw [g.F.eq]
    unfold backL at hk
    rcases List.mem_append.mp hk with hk | hk
    · exact List.mem_append_left _ hk
    · rcases List.mem_append.mp hk with hk | hk
      · exact List.mem_append_right _ (List.mem_append_left _ (g.opB_le.1 k hk))
      · exact List.mem_append_right _ (List.mem_append_right _ hk)
  · rw [g.F.eq]
    unfold backL
    have := g.opB_le.2
    simp only [List.length_append]; omega
  · unfold opB at hp
    split at hp
    · cases hp
    · exact g.F.pre p hp
/-- replace makes it -/
theorem Good.replace : preD op ob pd = .tuple [] → rep1 (S l) = S (backL ds op ob) := by
  intro hp
  have hn := g.F.num_no
  have hb : ∀ p, ob = some p → 43 ∉ p := fun p e q => absurd (g.F.bld p e 43 q) (by decide)
  by_cases h : (bareO op && ob.isSome) = true
  · have e : backL ds op ob = jn 46 ds ++ opt 43 ob := by unfold backL opB; rw [if_pos h]; rfl
    rw [e, g.F.eq]
    rw [Bool.and_eq_true] at h
    rw [bare_eq h.1]
    obtain ⟨b, rfl⟩ := Option.isSome_iff_exists.mp h.2
    exact rep_hit hn.1
  · have e : backL ds op ob = l := by unfold backL opB; rw [if_neg h, ← g.F.eq]
    rw [e]
    -- the tail is nothing or one bare hyphen
    have hop : (op = none ∧ ob.isSome = true) ∨ (op = some [] ∧ ob = none) := by
      cases op with
      | none =>
        cases ob with
        | none => have := g.tp; cases this; cases hp
        | some b => exact .inl ⟨rfl, rfl⟩
      | some p =>
        have e1 : pd = .tuple [] := hp
        have h1 := (ids_td g.tp).1
        rw [e1] at h1
        have h2 : p = [] := by
          have h3 := g.tp
          rw [e1] at h3
          change idsD false (S p) = some (.tuple []) at h3
          unfold idsD at h3
          split at h3
          · rename_i q; rw [sNil, S_beq] at q; simpa using q
          · split at h3
            · have h4 := Dat.tuple.inj (Option.some.inj h3)
              rw [List.map_eq_nil_iff] at h4
              exact absurd h4 (split_ne' _ _)
            · cases h3
        subst h2
        cases ob with
        | none => exact .inr ⟨rfl, rfl⟩
        | some b => exact absurd rfl h
    refine rep_none fun i h1 h2 => ?_
    rcases hop with ⟨rfl, hs⟩ | ⟨rfl, rfl⟩
    · obtain ⟨b, rfl⟩ := Option.isSome_iff_exists.mp hs
      have e2 : l = jn 46 ds ++ 43 :: b := g.F.eq
      rw [e2] at h1 h2
      rcases Nat.lt_or_ge i (jn 46 ds).length with q | q
      · rw [List.getElem?_append_left q] at h1
        exact hn.2 (List.mem_of_getElem? h1)
      · rw [List.getElem?_append_right (by omega)] at h2
        have : i + 1 - (jn 46 ds).length = (i - (jn 46 ds).length) + 1 := by omega
        rw [this, List.getElem?_cons_succ] at h2
        exact hb b rfl (List.mem_of_getElem? h2)
    · have e2 : l = jn 46 ds ++ [45] := g.F.eq
      rw [e2] at h2
      have := List.mem_of_getElem? h2
      rcases List.mem_append.mp this with q | q
      · exact hn.1 q
      · simp at q
theorem Good.same : preD op ob pd ≠ .tuple [] → S l = S (backL ds op ob) := by
  intro hp
  have e : ¬ (bareO op && ob.isSome) = true := fun h => by
    rw [Bool.and_eq_true] at h
    have e := bare_eq h.1
    subst e
    refine hp ?_
    have : pd = .tuple [] := by exact td_bare g.tp
    rw [this]; rfl
  unfold backL opB
  rw [if_neg e, ← g.F.eq]
theorem Good.core : dotS (dotS (tS (Mine.n0 ds)) (Mine.mid ds 1)) (Mine.mid ds 2) = S (jn 46 ds) := by
  have hk : ∀ {k : Nat} {d : List Nat} (v : PySem.Str), ds[k]? = some d → dotS v (Mine.mid ds k) = v ++ PySem.Str.ofString "." ++ S d := fun {k d} v h => by
    unfold Mine.mid
    rw [h]
    show v ++ PySem.Str.ofString "." ++ tS (nI (S d)) = _
    rw [tS_eq (g.dg h).1 (g.dg h).2.1 (g.dg h).2.2]
  have h0 : tS (Mine.n0 ds) = S (ds.getD 0 []) := tS_eq (g.dg g.zero).1 (g.dg g.zero).2.1 (g.dg g.zero).2.2
  rw [h0]
  have hle := g.F.le
  match ds, g.F.ne with
  | [d0], _ => rfl
  | [d0, d1], _ =>
    rw [hk (k := 1) (d := d1) _ rfl, sDot]
    show S d0 ++ S [46] ++ S d1 = _
    rw [S_app, S_app]
    show S (d0 ++ [46] ++ d1) = S (d0 ++ 46 :: d1)
    simp
  | [d0, d1, d2], _ =>
    rw [hk (k := 1) (d := d1) _ rfl, hk (k := 2) (d := d2) _ rfl, sDot]
    show S d0 ++ S [46] ++ S d1 ++ S [46] ++ S d2 = _
    rw [S_app, S_app, S_app, S_app]
    show S _ = S (d0 ++ 46 :: (d1 ++ 46 :: d2))
    simp
theorem Good.strV : Mine.strV (Mine.n0 ds) (Mine.mid ds 1) (Mine.mid ds 2) (preD op ob pd) bd (nms op) (nms ob) = S (backL ds op ob) := by
  unfold Mine.strV
  rw [g.core]
  have hbd := td_isDN g.tb
  have hpd := td_isDN g.tp
  have e1 : preS (S (jn 46 ds)) (preD op ob pd) bd (nms op) = S (jn 46 ds ++ opt 45 (opB op ob)) := by
    unfold preS
    rw [hbd]
    cases op with
    | none =>
      have e : opB none ob = none := by unfold opB; split <;> rfl
      rw [e]
      have : (!(nms none).isEmpty || isTup (preD none ob pd) && ob.isNone) = false := by
        show (false || isTup (preD none ob pd) && ob.isNone) = false
        cases ob with
        | none =>
          have : pd = .none := by have := g.tp; cases this; rfl
          subst this; rfl
        | some b => rw [Bool.false_or]; exact Bool.and_false _
      rw [this, if_neg (by decide)]
      show _ = S (jn 46 ds ++ [])
      rw [List.append_nil]
    | some p =>
      by_cases hp : p = []
      · subst hp
        have e : pd = .tuple [] := by exact td_bare g.tp
        subst e
        cases ob with
        | none =>
          show (if true = true then _ else _) = _
          rw [if_pos rfl, joinD_nms, sMinus, S_app, S_app]
          show S _ = S (jn 46 ds ++ [45])
          simp
        | some b =>
          show (if false = true then _ else _) = _
          rw [if_neg (by decide)]
          show _ = S (jn 46 ds ++ [])
          rw [List.append_nil]
      · have hb : bareO (some p) = false := by
          cases p with
          | nil => exact absurd rfl hp
          | cons => rfl
        have e : opB (some p) ob = some p := by unfold opB; rw [hb]; rfl
        have hn : (nms (some p)).isEmpty = false := by
          unfold nms
          dsimp only
          rw [if_neg hp]
          have := split_ne' (S p) (PySem.Str.ofString ".")
          cases h : Txt.split (S p) (PySem.Str.ofString ".") with
          | nil => exact absurd h this
          | cons => rfl
        rw [hn, e]
        show (if true = true then _ else _) = _
        rw [if_pos rfl, joinD_nms, sMinus, S_app, S_app]
        show S _ = S (jn 46 ds ++ 45 :: p)
        simp
  rw [e1]
  unfold buS backL
  cases ob with
  | none =>
    have : bd = .none := by have := g.tb; cases this; rfl
    subst this
    show S _ = S (_ ++ (_ ++ []))
    rw [List.append_nil]
  | some b =>
    have : isTup bd = true := (idsD_tup g.tb).1
    rw [this, if_pos rfl, joinD_nms, sPlus, S_app, S_app]
    show S _ = S (_ ++ (_ ++ 43 :: b))
    simp
end
end Mine
end
end
section
open PySem PySem.W PyProof.Rows PySem.Spec PySem.Calls
set_option maxRecDepth 100000
set_option linter.unusedVariables false
noncomputable section
namespace Mine
local macro_rules | `(tactic| walk_at "lk") => `(tactic| first | with_unfolding_all rfl | assumption | (refine (upd_ne (by decide +kernel)).trans ?_; walk_at "lk"))
local macro_rules | `(tactic| walk_at "leaf") => `(tactic| first | exact ev_str | exact ev_int | exact ev_none | exact ev_bool | exact ev_local (by assumption) (by walk_at "lk") (by kernel_rfl) (by kernel_rfl) | exact ev_B (by assumption) (k_tuple _) Boot.tuple n_tuple (by kernel_rfl) (by kernel_rfl) | exact ev_K (by assumption) (k_ver _) (by kernel_rfl) (by kernel_rfl))
theorem bad_parse (w : World) {l : List Nat} (A : Asc l) (h : rd (S l) = none) {p : Bool} {args : List D} {kw : List (PySem.Str × D)} (hf : PForm p (S l) args kw) : FN w 2 false 351 args kw none := by
  have hx : (S l).length ≤ 300 := by rw [S_len]; exact A.len
  cases e : sAll (sX p) l with
  | none => exact fn_parse_no w hf hx A.shown (A.run p) e
  | some g =>
    obtain ⟨ds, op, ob, F, rfl, h3⟩ := all_back e
    have hg := groups_of F
    have part : ∀ {q : List Nat}, (op = some q ∨ ob = some q) → Asc q := fun {q} hq => by
      refine A.sub (fun k hk => ?_) ?_
      · rw [F.eq]
        rcases hq with rfl | rfl
        · simp [opt, hk]
        · simp [opt, hk]
      · rw [F.eq]
        rcases hq with rfl | rfl
        · simp [opt]; omega
        · simp [opt]; omega
    have num : ∀ {k : Nat} {d : List Nat}, ds[k]? = some d → isNum (S d) := fun {k d} hk => by
      refine isNum_of (.at F hk) ?_
      have h1 := jn_len 46 (List.mem_of_getElem? hk)
      have h2 := A.len
      rw [F.eq, List.length_append] at h2; omega
    have num' : ∀ {k : Nat}, ∀ y, oS (ds[k]?) = some y → isNum y := fun {k} y hy => by
      cases e' : ds[k]? with
      | none => rw [e'] at hy; cases hy
      | some d => rw [e'] at hy; cases hy; exact num e'
    have z0 : ds[0]? = some (ds.getD 0 []) := by
      have := F.ne
      match ds, this with
      | d :: r, _ => rfl
    have hk : ∀ {k : Nat}, k < 3 → oS (ds[k]?) = none → p = true := fun {k} hk eo => by
      cases p with
      | true => rfl
      | false =>
        have := (h3 rfl).1
        rw [List.getElem?_eq_getElem (show k < ds.length by omega)] at eo; cases eo
    have q := fn_parse_yes w hf hx (by rw [S_len]; exact F.pos.1) A.shown (A.run p) e hg.2.1 hg.1 (num z0) num' num'
      (fun y e => by
        cases e' : op with
        | none => rw [e'] at e; cases e
        | some p => rw [e'] at e; cases e; exact (part (.inl e')).split.1)
      (fun y e => by
        cases e' : ob with
        | none => rw [e'] at e; cases e
        | some p => rw [e'] at e; cases e; exact (part (.inr e')).split.1) (hk (by decide)) (hk (by decide))
    have e1 := rd_form F
    rw [h] at e1
    rw [ps_form F] at q
    by_cases hz : ds.any (fun d => lz (S d)) = true
    · rw [if_pos hz] at q; exact q
    · rw [if_neg hz] at q e1
      cases hd : TD false op with
      | none => rw [hd] at q; exact q
      | some d =>
        rw [hd] at q e1
        cases hb : TD true ob with
        | none => rw [hb] at q; exact q
        | some e => rw [hb] at e1; cases e1
theorem kws_one {c : Cx} {ρ : Rho} {n : PySem.Str} {e : Expr} {p : Pos} {d : D} (h : EV c ρ e (some d)) : Kws c ρ [⟨some n, e, p⟩] [(n, d)] := ⟨rfl, h, trivial⟩
theorem k_read (w : World) : nsIn (KF w) mainGlobals "_law_read" = some (some (.ref 512)) := by kernel_rfl
theorem k_valid (w : World) : nsIn (KF w) mainGlobals "validate" = some (some (.ref 468)) := by kernel_rfl
theorem bad_read (w : World) {l : List Nat} (A : Asc l) (h : rd (S l) = none) : FN w 2 false 512 [ds (S l)] [] (some dn) := by
  have q := fn_read w A.read
  unfold rdD at q
  rw [h] at q
  exact q
set_option maxHeartbeats 8000000 in
theorem case_bad (w : World) {l : List Nat} (A : Asc l) (h : rd (S l) = none) : FN w 4 true 517 [ds (S l)] [] (some (db true)) := by
  refine fn_of (f := 517) (ho := by with_unfolding_all rfl) (by kernel_rfl) (o := .ret (db true)) (binds_ok [("text", ds (S l))] (fun news vs kvs s X a b => ?_) rfl) rfl (fun q => by cases q) (fun mean mg mb base A₀ outer L g₀ os O => ?_) rfl rfl rfl (by simp)
  · obtain ⟨v, rfl, a1⟩ := dall1 a
    obtain rfl := kall0 b
    exact ⟨[("text", v)], BindsTo.of_eq rfl, rfl, a1, trivial⟩
  · refine ex_cons (ex_assign O (ev_call (ev_K O (k_read _) (by kernel_rfl) (by kernel_rfl)) (evs_cons (by walk_at "leaf") evs_nil) kws_nil fun _ => callable_fn O (bad_read w A h) (by show 2 < 4; decide) (fun q => by cases q) (by kernel_rfl)) (by kernel_rfl)) ?_
    refine ex_cons (ex_try_assign O rfl (k_VE _) (by kernel_rfl) (ev_method (by walk_at "leaf") (gm_parse O (by show 2 < 4; decide) (bad_parse w A h (.kw (p := true)))) (evs_cons (by walk_at "leaf") evs_nil) (kws_one ev_bool)) (by kernel_rfl)) ?_
    refine ex_cons (ex_try_assign O rfl (k_VE _) (by kernel_rfl) (ev_call (by walk_at "leaf") (evs_cons (by walk_at "leaf") evs_nil) (kws_one ev_bool) fun _ => callable_cn O (ver_err w (.kw (p := true)) (bad_parse w A h (.pos))) (by show 3 < 4; decide) (fun q => by cases q) (by kernel_rfl)) (by kernel_rfl)) ?_
    refine ex_ret (ex_if (et_compare (d₁ := dn) (by walk_at "leaf") (by walk_at "leaf") op_is_none) (fun _ => ex_ret (ex_return ?_)) (fun q => by cases q))
    refine ev_andL (a := true) (b := true) (by exact ev_compare (d₁ := dn) (by walk_at "leaf") (by walk_at "leaf") op_is_none) (ev_andL (a := true) (b := true) (by exact ev_compare (d₁ := dn) (by walk_at "leaf") (by walk_at "leaf") op_is_none) (ev_bool_one ?_))
    exact ev_compare (ev_call (ev_K O (k_valid _) (by kernel_rfl) (by kernel_rfl)) (evs_cons (by walk_at "leaf") evs_nil) kws_nil fun _ => callable_fn O (fn_validate w (bad_parse w A h (.dflt rfl))) (by show 3 < 4; decide) (fun _ => rfl) (by kernel_rfl)) (by walk_at "leaf") op_is_bool
end Mine
end
end
section
open PySem PySem.W PyProof.Rows PySem.Spec PySem.Calls
set_option maxRecDepth 100000
set_option linter.unusedVariables false
set_option linter.unusedSimpArgs false
noncomputable section
namespace Mine
open Builtin Builtin.Str PySem.StrLaws PySem.NumText
theorem op_ne_bool {c : Cx} (O : c.Ok) {a b : Bool} : OP c (compareOp .NotEq) (db a) (db b) (some (db (a != b))) := by
  intro m news s v u Q E S hv hu hQ
  cases hv with | dat hv =>
  cases hu with | dat hu =>
  cases hv; cases hu
  have ra : PySem.Reads s.heap (.bool a) (.bool a) [] := .bool a
  have rb : PySem.Reads s.heap (.bool b) (.bool b) [] := .bool b
  refine ne_dataH ra rb (by cases a <;> rfl) (by cases b <;> rfl) (units_ok O) ?_
  have e : (!PyData.eqv (.bool a) (.bool b)) = (a != b) := by cases a <;> cases b <;> rfl
  rw [e]
  exact hQ.ok (List.Subset.refl _) S (.dat (.bool _))
/-! what an object holds -/
structure VOk (ds : List (List Nat)) (P bu : Dat) : Prop where
  n : 0 ≤ n0 ds ∧ n0 ds < 10 ^ 400
  m : ∀ k, NumD (mid ds k)
  p : ∃ lp, IdsD P lp ∧ (∀ y ∈ lp, IdOk y) ∧ lp.length ≤ 1000
  b : ∃ lb, IdsD bu lb ∧ (∀ y ∈ lb, IdOk y) ∧ lb.length ≤ 1000
theorem orT_ids {d : Dat} {l : List PySem.Str} (h : IdsD d l) : orT d = .tuple (l.map .str) := by
  cases h with
  | none => rfl
  | tup => rfl
theorem orT_tn {d : Dat} {l : List PySem.Str} (h : IdsD d l) : IdsD (orT d) l := by
  cases h with
  | none => exact .tup (l := [])
  | tup => exact .tup
open Classical in
theorem fn_eqV {w : World} {ds ds' : List (List Nat)} {P bu P' bu' : Dat} {p p' b : Bool} (h : VOk ds P bu) (h' : VOk ds' P' bu')
    (hb : b = true ↔ n0 ds = n0 ds' ∧ mid ds 1 = mid ds' 1 ∧ mid ds 2 = mid ds' 2 ∧ orT P = orT P' ∧ orT bu = orT bu') : FN w 0 false 419 [vG ds P bu p, vG ds' P' bu' p'] [] (some (db b)) := by
  obtain ⟨lp, i4, o4, l4⟩ := h.p
  obtain ⟨lb, i5, o5, l5⟩ := h.b
  obtain ⟨lp', i4', o4', l4'⟩ := h'.p
  obtain ⟨lb', i5', o5', l5'⟩ := h'.b
  have q := fn_eq (w := w) (ma := .int (n0 ds)) (ma' := .int (n0 ds')) (mi := mid ds 1) (mi' := mid ds' 1) (pa := mid ds 2) (pa' := mid ds' 2) (pre := P) (pre' := P') (bu := bu) (bu' := bu') (pt := .bool p) (pt' := .bool p')
    (b1 := decide (Dat.int (n0 ds) = .int (n0 ds'))) (b2 := decide (mid ds 1 = mid ds' 1)) (b3 := decide (mid ds 2 = mid ds' 2)) (b4 := decide (orT P = orT P')) (b5 := decide (orT bu = orT bu'))
    rfl rfl (h.m 1).kq (h'.m 1).kq (h.m 2).kq (h'.m 2).kq (kq_ids (orT_tn i4) o4) (kq_ids (orT_tn i4') o4') (kq_ids (orT_tn i5) o5) (kq_ids (orT_tn i5') o5')
    (by cases i4 <;> rfl) (by cases i4' <;> rfl) (by cases i5 <;> rfl) (by cases i5' <;> rfl) (i4.top l4) (i4'.top l4') (i5.top l5) (i5'.top l5')
    decide_eq_true_iff decide_eq_true_iff decide_eq_true_iff decide_eq_true_iff decide_eq_true_iff
  have e : (decide (Dat.int (n0 ds) = .int (n0 ds')) && (decide (mid ds 1 = mid ds' 1) && (decide (mid ds 2 = mid ds' 2) && (decide (orT P = orT P') && decide (orT bu = orT bu'))))) = b := by
    rw [Bool.eq_iff_iff, hb]
    simp only [Bool.and_eq_true, decide_eq_true_iff, Dat.int.injEq]
  rw [e] at q
  exact q
theorem op_eqV {c : Cx} (O : c.Ok) (hr : 0 < c.rk) {ds ds' : List (List Nat)} {P bu P' bu' : Dat} {p p' b : Bool} (h : VOk ds P bu) (h' : VOk ds' P' bu')
    (hb : b = true ↔ n0 ds = n0 ds' ∧ mid ds 1 = mid ds' 1 ∧ mid ds 2 = mid ds' 2 ∧ orT P = orT P' ∧ orT bu = orT bu') : OP c (compareOp .Eq) (vG ds P bu p) (vG ds' P' bu' p') (some (db b)) :=
  op_eq_inst O (fn_eqV h h' hb) hr rfl (by kernel_rfl) (by kernel_rfl) (by kernel_rfl)
section
variable {l : List Nat} {ds : List (List Nat)} {op ob : Option (List Nat)} {pd bd : Dat} (g : Good l ds op ob pd bd)
include g
theorem Good.vok : VOk ds (preD op ob pd) bd := ⟨g.n0, g.mid, ⟨_, g.idsP, g.tailP.2.1, g.tailP.1.many⟩, ⟨_, g.idsB, g.tailB.2.1, g.tailB.1.many⟩⟩
theorem Good.vokF : VOk ds (orT pd) (orT bd) := ⟨g.n0, g.mid, ⟨_, orT_tn (ids_td g.tp).1, g.tailP.2.1, g.tailP.1.many⟩, ⟨_, orT_tn g.idsB, g.tailB.2.1, g.tailB.1.many⟩⟩
theorem Good.vokB : VOk ds (.tuple ((nms op).map .str)) bd := ⟨g.n0, g.mid, ⟨_, .tup, g.tailP.2.1, g.tailP.1.many⟩, ⟨_, g.idsB, g.tailB.2.1, g.tailB.1.many⟩⟩
theorem Good.orP : orT (preD op ob pd) = .tuple ((nms op).map .str) := orT_ids g.idsP
theorem Good.orPd : orT pd = .tuple ((nms op).map .str) := orT_ids (ids_td g.tp).1
theorem Good.orB : orT bd = .tuple ((nms ob).map .str) := orT_ids g.idsB
/-- the numbers alone -/
theorem Good.alone : Good (jn 46 ds) ds none none .none .none := by
  refine ⟨g.asc.sub (fun k hk => ?_) ?_, ⟨by show _ = _ ++ ([] ++ []); simp, g.F.ne, g.F.le, g.F.num, (fun p h => by cases h), (fun p h => by cases h)⟩, g.z, rfl, rfl⟩
  · rw [g.F.eq]; exact List.mem_append_left _ hk
  · rw [g.F.eq, List.length_append]; omega
omit g in
theorem jn_snoc (c : Nat) (q : List Nat) : ∀ {ps : List (List Nat)}, ps ≠ [] → jn c (ps ++ [q]) = jn c ps ++ c :: q
  | [], h => absurd rfl h
  | p :: r, h => by
    by_cases hr : r = []
    · subst hr; rfl
    · rw [List.cons_append, jn_cons c p (by simp), jn_cons c p hr, jn_snoc c q hr]; simp
theorem Good.more (h3 : ds.length < 3) (hl : l.length ≤ 290) : Good (jn 46 ds ++ [46, 48]) (ds ++ [[48]]) none none .none .none := by
  have e : jn 46 (ds ++ [[48]]) = jn 46 ds ++ [46, 48] := jn_snoc 46 [48] g.F.ne
  refine ⟨⟨fun k hk => ?_, ?_⟩, ⟨by rw [← e]; show _ = _ ++ ([] ++ []); simp, by simp, by rw [List.length_append]; show ds.length + 1 ≤ 3; omega, fun d hd => ?_, (fun p h => by cases h), (fun p h => by cases h)⟩, ?_, rfl, rfl⟩
  · rcases List.mem_append.mp hk with q | q
    · exact g.alone.asc.sign k q
    · simp only [List.mem_cons, List.not_mem_nil, or_false] at q
      rcases q with rfl | rfl <;> decide
  · have := g.F.eq
    rw [this, List.length_append] at hl
    rw [List.length_append]; show _ + 2 ≤ 300; omega
  · rcases List.mem_append.mp hd with q | q
    · exact g.F.num d q
    · rw [List.mem_singleton] at q; subst q; exact ⟨by simp, by decide⟩
  · rw [List.any_append, g.z]; decide +kernel
theorem Good.differ (h3 : ds.length < 3) : ¬ (Mine.mid (ds ++ [[48]]) 1 = Mine.mid ds 1 ∧ Mine.mid (ds ++ [[48]]) 2 = Mine.mid ds 2) := by
  match ds, g.F.ne, h3 with
  | [d0], _, _ => rintro ⟨h, _⟩; exact Dat.noConfusion h
  | [d0, d1], _, _ => rintro ⟨_, h⟩; exact Dat.noConfusion h
theorem Good.mid2 : isN (.dat (Mine.mid ds 2)) = decide (ds.length ≠ 3) := by
  have := g.F.le
  match ds, g.F.ne, this with
  | [d0], _, _ => rfl
  | [d0, d1], _, _ => rfl
  | [d0, d1, d2], _, _ => rfl
omit g in
theorem bare_iff {o : Option (List Nat)} : bareO o = true ↔ o = some [] := ⟨bare_eq, fun h => by rw [h]; rfl⟩
theorem Good.whole_t (h : ds.length = 3 ∧ op ≠ some [] ∧ ob ≠ some []) : (!isN (.dat (Mine.mid ds 2)) && !(bareO ob || bareO op)) = true := by
  have h1 : bareO op = false := Bool.eq_false_iff.mpr fun q => h.2.1 (bare_eq q)
  have h2 : bareO ob = false := Bool.eq_false_iff.mpr fun q => h.2.2 (bare_eq q)
  rw [g.mid2, h1, h2, decide_eq_false (by simp [h.1])]; rfl
theorem Good.whole_f (h : ¬ (ds.length = 3 ∧ op ≠ some [] ∧ ob ≠ some [])) : (!isN (.dat (Mine.mid ds 2)) && !(bareO ob || bareO op)) = false := by
  rw [Bool.eq_false_iff]
  intro q
  rw [g.mid2] at q
  simp only [Bool.and_eq_true, Bool.not_eq_true', decide_eq_false_iff_not, Bool.or_eq_false_iff, ne_eq, Decidable.not_not] at q
  refine h ⟨q.1, fun e => ?_, fun e => ?_⟩
  · rw [e] at q; exact absurd q.2.2 (by decide)
  · rw [e] at q; exact absurd q.2.1 (by decide)
end
end Mine
end
end
section
open PySem PySem.W PyProof.Rows PySem.Spec PySem.Calls
set_option maxRecDepth 100000
set_option linter.unusedVariables false
noncomputable section
namespace Mine
open Builtin Builtin.Str PySem.StrLaws PySem.NumText
def strsN : List Dat → List Dat
  | [] => []
  | .int n :: l => .str (tS n) :: strsN l
  | _ :: l => strsN l
theorem items_num {c : Cx} {scope : Scope} {p1 p2 p3 p4 p5 p6 : Pos} {k : Nat} (h1 : scope.names.lookup ("item" : PySem.Str) = some .local) (hg : scope.names.lookup ("str" : PySem.Str) = some .globalImplicit) (hk : scope.kind = .function)
    (hx : ∀ C m, (inC c (compEnvC scope [] C c.env) m).Ok → (inC c (compEnvC scope [] C c.env) m).en.kindOf "item" = some .local ∧ (inC c (compEnvC scope [] C c.env) m).en.kindOf "str" = some .globalImplicit) : ∀ (l : List Dat), (∀ d ∈ l, NumD d) →
    Items c scope "item" (some (.Compare (.Name "item" p1) [.IsNot] [.Constant .none k p2] p3)) (.Call (.Name "str" p4) [.Name "item" p5] [] p6) l (strsN l)
  | [], _ => rfl
  | d :: l, hl => by
    have ih := items_num (p1 := p1) (p2 := p2) (p3 := p3) (p4 := p4) (p5 := p5) (p6 := p6) (k := k) h1 hg hk hx l fun d hd => hl d (List.mem_cons_of_mem _ hd)
    rcases hl d (List.mem_cons_self ..) with rfl | ⟨n, rfl, n1, n2⟩
    · refine .inr ⟨fun C m O => ?_, ih⟩
      exact et_compare (d₁ := dn) (ev_local O (by with_unfolding_all rfl) (hx C m O).1 (by kernel_rfl)) ev_none op_isnot_none
    · refine .inl ⟨_, _, fun C m O => ⟨et_compare (d₁ := di n) (ev_local O (by with_unfolding_all rfl) (hx C m O).1 (by kernel_rfl)) ev_none op_isnot_none, ?_, rfl⟩, ih, rfl⟩
      refine ev_call (ev_B O (k_str c.w) Boot.str n_str (hx C m O).2 (by kernel_rfl)) (evs_cons (ev_local O (by with_unfolding_all rfl) (hx C m O).1 (by kernel_rfl)) evs_nil) kws_nil fun _ => (cb_str_int O (n := n) ?_).callable (fun _ q => by cases q)
      have : n < ((10 ^ 4300 : Nat) : Int) := by
        refine Int.lt_of_lt_of_le n2 ?_
        have h : (10 : Nat) ^ 400 ≤ 10 ^ 4300 := Nat.pow_le_pow_right (by decide) (by decide)
        have h2 : ((10 ^ 400 : Nat) : Int) ≤ ((10 ^ 4300 : Nat) : Int) := by exact_mod_cast h
        refine Int.le_trans (Int.le_of_eq ?_) h2
        rw [Int.natCast_pow]; rfl
      omega
theorem Good.strs {l : List Nat} {ds : List (List Nat)} {op ob : Option (List Nat)} {pd bd : Dat} (g : Good l ds op ob pd bd) : strsN [.int (Mine.n0 ds), Mine.mid ds 1, Mine.mid ds 2] = (ds.map S).map .str := by
  have hk : ∀ {k : Nat} {d : List Nat} {r : List Dat}, ds[k]? = some d → strsN (Mine.mid ds k :: r) = .str (S d) :: strsN r := fun {k d r} h => by
    unfold Mine.mid
    rw [h]
    show Dat.str (tS (nI (S d))) :: _ = _
    rw [tS_eq (g.dg h).1 (g.dg h).2.1 (g.dg h).2.2]
  have h0 : tS (Mine.n0 ds) = S (ds.getD 0 []) := tS_eq (g.dg g.zero).1 (g.dg g.zero).2.1 (g.dg g.zero).2.2
  show Dat.str (tS (Mine.n0 ds)) :: strsN [Mine.mid ds 1, Mine.mid ds 2] = _
  rw [h0]
  have hle := g.F.le
  match ds, g.F.ne, hle with
  | [d0], _, _ => rfl
  | [d0, d1], _, _ => rw [hk (k := 1) (d := d1) rfl]; rfl
  | [d0, d1, d2], _, _ => rw [hk (k := 1) (d := d1) rfl, hk (k := 2) (d := d2) rfl]; rfl
theorem Good.joined {c : Cx} {l : List Nat} {ds : List (List Nat)} {op ob : Option (List Nat)} {pd bd : Dat} (g : Good l ds op ob pd bd) : Mine.GM c (Mine.ds ".") "join" [.dat (.list (strsN [.int (Mine.n0 ds), Mine.mid ds 1, Mine.mid ds 2]))] [] (some (Mine.ds (S (jn 46 ds)))) := by
  rw [g.strs, ← txt_join, sDot]
  refine gm_join_list ?_
  have h1 := jn_sum 46 g.F.ne
  have h2 := g.alone.asc.len
  rw [List.length_map, List.map_map]
  have : (PySem.Str.length ∘ S) = fun p : List Nat => p.length := by funext p; exact S_len p
  rw [this, S_len]
  show _ + ds.length * 1 ≤ _
  omega
theorem kq_ids8 {d : Dat} {l : List PySem.Str} (h : IdsD d l) (ho : ∀ y ∈ l, IdOk y) : kqdOk 8 d = true := by
  cases h with
  | none => rfl
  | tup =>
    show (l.map Dat.str).all (kqdOk 7) = true
    rw [List.all_eq_true]
    intro d hd
    obtain ⟨y, hy, rfl⟩ := List.mem_map.mp hd
    exact strOk_of (ho y hy).1
theorem noL_ids {d : Dat} {l : List PySem.Str} (h : IdsD d l) : noL d = true := by
  cases h with
  | none => rfl
  | tup =>
    show noLs (l.map Dat.str) = true
    induction l with
    | nil => rfl
    | cons a l ih => exact ih
theorem noL_num {d : Dat} (h : NumD d) : noL d = true := by rcases h with rfl | ⟨n, rfl, _, _⟩ <;> rfl
theorem VOk.nol {ds : List (List Nat)} {P bu : Dat} (h : VOk ds P bu) : noLs [.int (n0 ds), mid ds 1, mid ds 2, P, bu] = true := by
  obtain ⟨lp, i4, o4, l4⟩ := h.p
  obtain ⟨lb, i5, o5, l5⟩ := h.b
  show (true && (noL _ && (noL _ && (noL _ && (noL _ && true))))) = true
  rw [noL_num (h.m 1), noL_num (h.m 2), noL_ids i4, noL_ids i5]; rfl
theorem VOk.kq {ds : List (List Nat)} {P bu : Dat} (h : VOk ds P bu) : kqdOk 9 (.tuple [.int (n0 ds), mid ds 1, mid ds 2, P, bu]) = true := by
  obtain ⟨lp, i4, o4, l4⟩ := h.p
  obtain ⟨lb, i5, o5, l5⟩ := h.b
  show List.all [Dat.int (n0 ds), mid ds 1, mid ds 2, P, bu] (kqdOk 8) = true
  have q : ∀ {d : Dat}, NumD d → kqdOk 8 d = true := fun h => by rcases h with rfl | ⟨n, rfl, _, _⟩ <;> rfl
  rw [List.all_cons, List.all_cons, List.all_cons, List.all_cons, List.all_cons, q (h.m 1), q (h.m 2), kq_ids8 i4 o4, kq_ids8 i5 o5]; rfl
/-- str(version) -/
theorem Good.str {l : List Nat} {ds : List (List Nat)} {op ob : Option (List Nat)} {pd bd : Dat} (g : Good l ds op ob pd bd) (w : World) : FN w 0 false 389 [vG ds (preD op ob pd) bd true] [] (some (Mine.ds (S (backL ds op ob)))) := by
  have h := fn_str w g.n0.1 g.n0.2 (g.mid 1) (g.mid 2) g.idsP g.idsB g.tailP.1.many g.tailB.1.many g.tailP.2.2 g.tailB.2.2 g.tailP.1.sum g.tailB.1.sum (kq_ids g.idsP g.tailP.2.1) (kq_ids g.idsB g.tailB.2.1)
  rw [g.strV] at h
  exact h
/-- the version built of its parts -/
theorem Good.built {l : List Nat} {ds : List (List Nat)} {op ob : Option (List Nat)} {pd bd : Dat} (g : Good l ds op ob pd bd) (w : World) :
    CN w 3 true (.ref 457) [] [("major", di (Mine.n0 ds)), ("minor", .dat (Mine.mid ds 1)), ("patch", .dat (Mine.mid ds 2)), ("prerelease", .dat (preD op ob pd)), ("build", .dat bd), ("partial", db true)] (some (vG ds (.tuple ((nms op).map .str)) bd true)) :=
  ver_kw w g.n0.1 g.n0.2 (g.mid 1) (g.mid 2) g.idsP g.idsB g.tailP.1 g.tailB.1 (ids_td g.tp).2 (ids_td g.tb).2 g.tailP.2.1 g.tailB.2.1
/-- validate(text) -/
theorem Good.valid {l : List Nat} {ds : List (List Nat)} {op ob : Option (List Nat)} {pd bd : Dat} (g : Good l ds op ob pd bd) (w : World) : FN w 3 true 468 [Mine.ds (S l)] [] (some (db (!isN (.dat (Mine.mid ds 2)) && !(bareO ob || bareO op)))) := by
  by_cases h : ds.length = 3 ∧ op ≠ some [] ∧ ob ≠ some []
  · rw [g.whole_t h]
    exact fn_validate w (g.full w (.dflt rfl) h.1 h.2.1 h.2.2)
  · rw [g.whole_f h]
    exact fn_validate w (g.notfull w (.dflt rfl) h)
end Mine
end
end
section
open PySem PySem.W PyProof.Rows PySem.Spec PySem.Calls
set_option maxRecDepth 100000
set_option linter.unusedVariables false
noncomputable section
namespace Mine
local macro_rules | `(tactic| walk_at "lk") => `(tactic| first | with_unfolding_all rfl | assumption | (refine (upd_ne (by decide +kernel)).trans ?_; walk_at "lk"))
local macro_rules | `(tactic| walk_at "leaf") => `(tactic| first | exact ev_str | exact ev_int | exact ev_none | exact ev_bool | exact ev_local (by assumption) (by walk_at "lk") (by kernel_rfl) (by kernel_rfl) | exact ev_B (by assumption) (k_tuple _) Boot.tuple n_tuple (by kernel_rfl) (by kernel_rfl) | exact ev_K (by assumption) (k_ver _) (by kernel_rfl) (by kernel_rfl))
local macro_rules | `(tactic| walk_at "due") => `(tactic| exact ev_sub (by walk_at "leaf") ev_int (sub_tup (by decide) (by decide) rfl rfl (fun _ _ => rfl)))
abbrev dueL (ds : List (List Nat)) (P bd : Dat) : List Dat := [.int (n0 ds), mid ds 1, mid ds 2, P, bd]
theorem kws_cons {c : Cx} {ρ : Rho} {n : PySem.Str} {e : Expr} {p : Pos} {d : D} {r : List Keyword} {r' : List (PySem.Str × D)} (h : EV c ρ e (some d)) (k : Kws c ρ r r') : Kws c ρ (⟨some n, e, p⟩ :: r) ((n, d) :: r') := ⟨rfl, h, k⟩
theorem et_ne_same {c : Cx} {ρ : Rho} (O : c.Ok) {l r : Expr} {pos : Pos} {b : Bool} (h1 : EV c ρ l (some (db b))) (h2 : EV c ρ r (some (db b))) (hm : behindInMarks .NotEq r = false := by with_unfolding_all rfl) : ET c ρ (.Compare l [.NotEq] [r] pos) (some false) := by
  have h := et_compare h1 h2 (pos := pos) (op_ne_bool O) hm
  rw [bne_self_eq_false] at h
  exact h
set_option maxHeartbeats 16000000 in
open Classical in
theorem case_good (w : World) {l : List Nat} {ds : List (List Nat)} {op ob : Option (List Nat)} {pd bd : Dat} (g : Good l ds op ob pd bd) (hl : l.length ≤ 290) : FN w 4 true 517 [Mine.ds (S l)] [] (some (db true)) := by
  refine fn_of (f := 517) (ho := by with_unfolding_all rfl) (by kernel_rfl) (o := .ret (db true)) (binds_ok [("text", Mine.ds (S l))] (fun news vs kvs s X a b => ?_) rfl) rfl (fun q => by cases q) (fun mean mg mb base A₀ outer L g₀ os O => ?_) rfl rfl rfl (by simp)
  · obtain ⟨v, rfl, a1⟩ := dall1 a
    obtain rfl := kall0 b
    exact ⟨[("text", v)], BindsTo.of_eq rfl, rfl, a1, trivial⟩
  · refine ex_cons (ex_assign O (ev_call (ev_K O (k_read _) (by kernel_rfl) (by kernel_rfl)) (evs_cons (by walk_at "leaf") evs_nil) kws_nil fun _ => callable_fn O (g.read w) (by show 2 < 4; decide) (fun q => by cases q) (by kernel_rfl)) (by kernel_rfl)) ?_
    refine ex_cons (ex_try_assign O rfl (k_VE _) (by kernel_rfl) (ev_method (by walk_at "leaf") (gm_parse O (by show 2 < 4; decide) (g.parse w (.kw (p := true)))) (evs_cons (by walk_at "leaf") evs_nil) (kws_one ev_bool)) (by kernel_rfl)) ?_
    refine ex_cons (ex_try_assign O rfl (k_VE _) (by kernel_rfl) (ev_call (by walk_at "leaf") (evs_cons (by walk_at "leaf") evs_nil) (kws_one ev_bool) fun _ => callable_cn O (g.version w) (by show 3 < 4; decide) (fun _ => rfl) (by kernel_rfl)) (by kernel_rfl)) ?_
    refine ex_cons (ex_if (et_compare (d₁ := dt [.tuple (dueL ds (preD op ob pd) bd), .bool (bareO ob || bareO op)]) (by walk_at "leaf") (by walk_at "leaf") op_is_none) (fun q => by cases q) (fun _ => ex_nil)) ?_
    refine ex_cons (ex_unpack O (by walk_at "leaf") (xs := ["due", "bare"]) ⟨⟨_, rfl⟩, by kernel_rfl, ⟨_, rfl⟩, by kernel_rfl, trivial⟩ rfl) ?_
    have vk := g.vok
    have hlen : (S l).length ≤ 1000 := by rw [S_len]; omega
    refine ex_cons (ex_if (et_boolop (ets_or (et_compare (d₁ := dt (dueL ds (preD op ob pd) bd)) (by walk_at "leaf") (by walk_at "leaf") (op_ne_same O vk.kq)) fun _ => ets_or (et_compare (d₁ := vG ds (preD op ob pd) bd true) (by walk_at "leaf") (by walk_at "leaf") op_is_none) fun _ => ets_or (et_compare (ev_call (by walk_at "leaf") (evs_cons (by walk_at "leaf") evs_nil) kws_nil fun _ => (cb_tuple_ver O rfl (by show 0 < 4; decide) vk.nol).callable (fun _ q => by cases q)) (by walk_at "leaf") (op_ne_same O vk.kq)) fun _ => ets_or (et_compare (ev_attr (by walk_at "leaf") (ga_fld rfl (by kernel_rfl) (by kernel_rfl))) (by walk_at "leaf") (op_isnot_bool (a := true) (b := true))) fun _ => ets_or_nil)) (fun q => by cases q) (fun _ => ex_nil)) ?_
    refine ex_cons (ex_if (et_compare (ev_tuple (l := dueL ds (preD op ob pd) bd) (evs_cons (ev_attr (by walk_at "leaf") (ga_fld rfl (by kernel_rfl) (by kernel_rfl))) (evs_cons (ev_attr (by walk_at "leaf") (ga_fld rfl (by kernel_rfl) (by kernel_rfl))) (evs_cons (ev_attr (by walk_at "leaf") (ga_fld rfl (by kernel_rfl) (by kernel_rfl))) (evs_cons (ev_attr (by walk_at "leaf") (ga_fld rfl (by kernel_rfl) (by kernel_rfl))) (evs_cons (ev_attr (by walk_at "leaf") (ga_fld rfl (by kernel_rfl) (by kernel_rfl))) evs_nil))))) (by show 5 ≤ 1000; decide)) (by walk_at "leaf") (op_ne_same O vk.kq)) (fun q => by cases q) (fun _ => ex_nil)) ?_
    obtain ⟨pd', gb, epd⟩ := g.back
    have hP : PySem.Str.ofString "-+" = dp := rfl
    refine ex_cons (ex_assign (d := Mine.ds (S (backL ds op ob))) O (ev_back (x := S l) (b := decide (preD op ob pd = .tuple [])) (evt_sub (by walk_at "leaf") evt_int (sub_tup (i := 3) (d := preD op ob pd) (by decide) (by decide) rfl rfl (fun _ _ => rfl))) (ev_tuple (l := []) evs_nil (by decide)) (op_eqB O (kq_ids g.idsP g.tailP.2.1) rfl decide_eq_true_iff) hlen (by walk_at "leaf") (by walk_at "leaf") ?_ rfl) (by kernel_rfl)) ?_
    · split
      · rename_i h; rw [g.replace (of_decide_eq_true h)]
      · rename_i h; rw [← g.same fun q => h (decide_eq_true q)]
    have kqB : kqdOk 9 (.str (S (backL ds op ob))) = true := strOk_of gb.asc.str
    have vkb := gb.vok
    have ver := gb.version w
    rw [epd] at vkb ver
    refine ex_cons (ex_if (et_boolop (ets_or (et_compare (ev_call (ev_B O (k_str _) Boot.str n_str (by kernel_rfl) (by kernel_rfl)) (evs_cons (by walk_at "leaf") evs_nil) kws_nil fun _ => (cb_str_inst O (g.str w) (by show 0 < 4; decide) (by kernel_rfl) (by kernel_rfl)).callable (fun _ q => by cases q)) (by walk_at "leaf") (op_ne_same O kqB)) fun _ => ets_or (et_compare (ev_call (by walk_at "leaf") (evs_cons (ev_call (by walk_at "leaf") (evs_cons (by walk_at "leaf") evs_nil) (kws_one ev_bool) fun _ => callable_cn O ver (by show 3 < 4; decide) (fun _ => rfl) (by kernel_rfl)) evs_nil) kws_nil fun _ => (cb_tuple_ver O rfl (by show 0 < 4; decide) vk.nol).callable (fun _ q => by cases q)) (by walk_at "leaf") (op_ne_same O vk.kq)) fun _ => ets_or_nil)) (fun q => by cases q) (fun _ => ex_nil)) ?_
    refine ex_cons (ex_assign (d := db (!isN (.dat (mid ds 2)) && !(bareO ob || bareO op))) O (ev_andL (ev_compare (d₁ := .dat (mid ds 2)) (by walk_at "due") (by walk_at "leaf") op_isnot_none) (ev_bool_one (ev_not (by walk_at "leaf") (ob_dat (x := .bool (bareO ob || bareO op)) trivial)))) (by kernel_rfl)) ?_
    refine ex_cons (ex_if (et_compare (ev_call (ev_K O (k_valid _) (by kernel_rfl) (by kernel_rfl)) (evs_cons (by walk_at "leaf") evs_nil) kws_nil fun _ => callable_fn O (g.valid w) (by show 3 < 4; decide) (fun _ => rfl) (by kernel_rfl)) (by walk_at "leaf") op_isnot_bool) (fun q => ?_) (fun _ => ex_nil)) ?_
    · exfalso
      revert q
      cases (!isN (.dat (mid ds 2)) && !(bareO ob || bareO op)) <;> decide
    refine ex_cons (ex_if (et_boolop (ets_and (b' := false) (et_value (by walk_at "leaf") (ob_dat (x := .bool (!isN (.dat (mid ds 2)) && !(bareO ob || bareO op))) trivial)) fun hw => ?_)) (fun q => ?_) (fun _ => ex_nil)) ?_
    · have h3 : ds.length = 3 ∧ op ≠ some [] ∧ ob ≠ some [] := Classical.byContradiction fun n => by have := g.whole_f n; exact absurd (hw.symm.trans this) (by decide)
      have whole := g.whole w h3.1 h3.2.1 h3.2.2
      have vkF := g.vokF
      rw [g.orPd, g.orB] at whole vkF
      refine ets_and (b := false) (b' := true) (et_boolop (ets_or (b := false) (b' := false) (et_compare (ev_call (by walk_at "leaf") (evs_cons (ev_call (by walk_at "leaf") (evs_cons (by walk_at "leaf") evs_nil) kws_nil fun _ => callable_cn O whole (by show 3 < 4; decide) (fun _ => rfl) (by kernel_rfl)) evs_nil) kws_nil fun _ => (cb_tuple_ver O rfl (by show 0 < 4; decide) vkF.nol).callable (fun _ q => by cases q))
        (ev_tuple (l := dueL ds (.tuple ((nms op).map .str)) (.tuple ((nms ob).map .str))) (evs_cons (by walk_at "due") (evs_cons (by walk_at "due") (evs_cons (by walk_at "due") (evs_cons (ev_orL g.idsP g.tailP.1.many (by walk_at "due")) (evs_cons (ev_orL g.idsB g.tailB.1.many (by walk_at "due")) evs_nil))))) (by show 5 ≤ 1000; decide)) (op_ne_same O vkF.kq)) fun _ => ?_)) (fun q => by cases q)
      refine ets_or (b := !true) (et_not (et_compare (ev_call (by walk_at "leaf") (evs_cons (by walk_at "leaf") evs_nil) kws_nil fun _ => callable_cn O whole (by show 3 < 4; decide) (fun _ => rfl) (by kernel_rfl)) (by walk_at "leaf") (op_eqV O (by show 0 < 4; decide) vkF vk ⟨fun _ => ⟨rfl, rfl, rfl, g.orP.symm, g.orB.symm⟩, fun _ => rfl⟩))) fun _ => ets_or_nil
    · rw [Bool.and_false] at q; cases q
    have va := g.alone.version w
    have vka := g.alone.vok
    have epa : preD none none Dat.none = .none := rfl
    rw [epa] at va vka
    refine ex_cons (ex_assign O (ev_method ev_str g.joined (evs_cons (ev_comp_tup (ct := some _) O rfl (ev_slice3 (by walk_at "leaf") (show PV _ _ (some _) (some 3) from ev_int) (fun _ _ => rfl) (fun _ _ => rfl)) (by show 3 ≤ 1000000; decide) (items_num (by kernel_rfl) (by kernel_rfl) (by kernel_rfl) (fun C m OC => ⟨by kernel_rfl, by kernel_rfl⟩) _ fun d hd => ?_) (by kernel_rfl) (by simp) rfl (by decide +kernel) (by kernel_rfl)) evs_nil) kws_nil) (by kernel_rfl)) ?_
    · simp only [List.mem_cons, List.not_mem_nil, or_false] at hd
      rcases hd with rfl | rfl | rfl
      · exact .inr ⟨_, rfl, g.n0.1, g.n0.2⟩
      · exact g.mid 1
      · exact g.mid 2
    refine ex_cons (ex_assign O (ev_call (by walk_at "leaf") (evs_cons (by walk_at "leaf") evs_nil) (kws_one ev_bool) fun _ => callable_cn O va (by show 3 < 4; decide) (fun _ => rfl) (by kernel_rfl)) (by kernel_rfl)) ?_
    refine ex_cons (ex_if (et_boolop (ets_or (b := false) (b' := false) (et_compare (ev_call (by walk_at "leaf") (evs_cons (by walk_at "leaf") evs_nil) kws_nil fun _ => (cb_tuple_ver O rfl (by show 0 < 4; decide) vka.nol).callable (fun _ q => by cases q)) (ev_tuple (l := dueL ds .none .none) (evs_cons (by walk_at "due") (evs_cons (by walk_at "due") (evs_cons (by walk_at "due") (evs_cons (by walk_at "leaf") (evs_cons (by walk_at "leaf") evs_nil))))) (by show 5 ≤ 1000; decide)) (op_ne_same O vka.kq)) fun _ => ets_or (b := false) (b' := false) ?_ fun _ => ets_or_nil)) (fun q => by cases q) (fun _ => ex_nil)) ?_
    · refine et_ne_same O (b := decide (Dat.tuple ((nms op).map Dat.str) = .tuple []) && decide (Dat.tuple ((nms ob).map Dat.str) = .tuple [])) (ev_compare (by walk_at "leaf") (by walk_at "leaf") (op_eqV O (by show 0 < 4; decide) vka vk ?_)) (ev_andL (ev_compare (ev_orL g.idsP g.tailP.1.many (by walk_at "due")) (ev_tuple (l := []) evs_nil (by decide)) (op_eqB O (kq_tup g.tailP.2.1) rfl decide_eq_true_iff)) (ev_bool_one (ev_compare (ev_orL g.idsB g.tailB.1.many (by walk_at "due")) (ev_tuple (l := []) evs_nil (by decide)) (op_eqB O (kq_tup g.tailB.2.1) rfl decide_eq_true_iff))))
      rw [g.orP, g.orB, Bool.and_eq_true, decide_eq_true_iff, decide_eq_true_iff]
      exact ⟨fun q => ⟨rfl, rfl, rfl, q.1.symm, q.2.symm⟩, fun q => ⟨q.2.2.2.1.symm, q.2.2.2.2.symm⟩⟩
    refine ex_cons (ex_if (et_boolop (ets_and (b' := false) (et_compare (d₁ := .dat (mid ds 2)) (by walk_at "due") (by walk_at "leaf") op_is_none) fun hn => ?_)) (fun q => ?_) (fun _ => ex_nil)) ?_
    · have h3 : ds.length < 3 := by
        have h1 := g.mid2
        rw [hn] at h1
        have h2 := of_decide_eq_true h1.symm
        have := g.F.le; omega
      have gm := g.more h3 hl
      have vm := gm.version w
      have vkm := gm.vok
      rw [epa] at vm vkm
      have ec : S (jn 46 ds) ++ PySem.Str.ofString ".0" = S (jn 46 ds ++ [46, 48]) := by
        rw [show PySem.Str.ofString ".0" = S [46, 48] by decide +kernel, S_app]
      have hc2 : (S (jn 46 ds)).length + (PySem.Str.ofString ".0").length ≤ 2 ^ 24 := by
        have := g.alone.asc.len
        rw [S_len, show (PySem.Str.ofString ".0").length = 2 by decide]; omega
      refine ets_and (b := false) (b' := true) (et_compare (ev_call (by walk_at "leaf") (evs_cons (ev_binop (by walk_at "leaf") (by walk_at "leaf") (op_add_str hc2)) evs_nil) (kws_one ev_bool) fun _ => callable_cn O (ec ▸ vm) (by show 3 < 4; decide) (fun _ => rfl) (by kernel_rfl)) (by walk_at "leaf") (op_eqV O (by show 0 < 4; decide) vkm vka ⟨(fun q => by cases q), fun q => (g.differ h3 ⟨q.2.1, q.2.2.1⟩).elim⟩)) (fun q => by cases q)
    · rw [Bool.and_false] at q; cases q
    refine ex_cons (ex_assign O (ev_call (by walk_at "leaf") evs_nil (kws_cons (by walk_at "due") (kws_cons (by walk_at "due") (kws_cons (by walk_at "due") (kws_cons (by walk_at "due") (kws_cons (by walk_at "due") (kws_one ev_bool)))))) fun _ => callable_cn O (g.built w) (by show 3 < 4; decide) (fun _ => rfl) (by kernel_rfl)) (by kernel_rfl)) ?_
    have vkB := g.vokB
    refine ex_ret (ex_return (ev_andL (a := true) (b := true) (ev_compare (ev_call (by walk_at "leaf") (evs_cons (by walk_at "leaf") evs_nil) kws_nil fun _ => (cb_tuple_ver O rfl (by show 0 < 4; decide) vkB.nol).callable (fun _ q => by cases q)) (ev_tuple (l := dueL ds (.tuple ((nms op).map .str)) bd) (evs_cons (by walk_at "due") (evs_cons (by walk_at "due") (evs_cons (by walk_at "due") (evs_cons (ev_orL g.idsP g.tailP.1.many (by walk_at "due")) (evs_cons (by walk_at "due") evs_nil))))) (by show 5 ≤ 1000; decide)) (op_eqB O vkB.kq vkB.kq ⟨fun _ => rfl, fun _ => rfl⟩)) (ev_bool_one (ev_compare (by walk_at "leaf") (by walk_at "leaf") (op_eqV O (by show 0 < 4; decide) vkB vk ⟨fun _ => ⟨rfl, rfl, rfl, g.orP.symm, rfl⟩, fun _ => rfl⟩)))))
/-- the form of a text that is read -/
theorem good_of {l : List Nat} (A : Asc l) {r : List Dat × Bool} (h : rd (S l) = some r) : ∃ ds op ob pd bd, Good l ds op ob pd bd := by
  obtain ⟨ds, op, ob, F⟩ := form_of_rd h
  rw [rd_form F] at h
  by_cases hz : ds.any (fun d => lz (S d)) = true
  · rw [if_pos hz] at h; cases h
  · rw [if_neg hz] at h
    cases hd : TD false op with
    | none => rw [hd] at h; cases h
    | some d =>
      rw [hd] at h
      cases hb : TD true ob with
      | none => rw [hb] at h; cases h
      | some e => exact ⟨ds, op, ob, d, e, A, F, Bool.eq_false_iff.mpr hz, hd, hb⟩
/-- _law_case says True of every text of ASCII signs -/
theorem fn_case (w : World) {l : List Nat} (hs : ∀ k ∈ l, k < 128 ∧ k ≠ 10) (hl : l.length ≤ 290) : FN w 4 true 517 [Mine.ds (S l)] [] (some (db true)) := by
  have A : Asc l := ⟨hs, by omega⟩
  cases h : rd (S l) with
  | none => exact case_bad w A h
  | some r =>
    obtain ⟨ds, op, ob, pd, bd, g⟩ := good_of A h
    exact case_good w g hl
end Mine
end
end
section
open PySem PySem.W PyProof.Rows PySem.Spec PySem.Calls
set_option maxRecDepth 100000
set_option linter.unusedVariables false
noncomputable section
namespace Mine
section
variable {c : Cx} {m : PySem.Str → Option Value} {news news' : Led} {s s' : Shared} {ρ ρ' : Rho}
theorem op_mul_int {a b : Int} (hm : IntMulOk a b) : OP c (binaryOp .Mult) (di a) (di b) (some (di (a * b))) := by
  intro m news s v u Q E S hv hu hQ
  cases hv with | dat hv => cases hv; cases hu with | dat hu => cases hu; exact P.mul_int (hQ.ok (List.Subset.refl _) S.toks2 (.dat (.int _ _))) hm
theorem op_mod_int {a b : Int} (hb : 0 < b) : OP c (binaryOp .Mod) (di a) (di b) (some (di (a % b))) := by
  intro m news s v u Q E S hv hu hQ
  cases hv with | dat hv => cases hv; cases hu with | dat hu => cases hu; exact mod_int (by omega) (hQ.ok (List.Subset.refl _) S.toks2 (by rw [Int.fmod_eq_emod_of_nonneg _ (by omega)]; exact .dat (.int _ _)))
theorem noPylong {a b : Int} (hb : 0 < b) (hs : b < 2 ^ 64) : Builtin.divisionGoesByPylong a b = false := by
  have h1 : (if (b == 0) = true then 0 else b.natAbs.log2 / 30 + 1) ≤ 300 := by
    split
    · decide
    · have : b.natAbs.log2 < 64 := (Nat.log2_lt (by omega)).mpr (by omega)
      omega
  unfold Builtin.divisionGoesByPylong
  show (decide ((if (b == 0) = true then 0 else b.natAbs.log2 / 30 + 1) > 300) && _) = false
  rw [decide_eq_false (by omega), Bool.false_and]
theorem op_sub_int {a b : Int} : OP c (binaryOp .Sub) (di a) (di b) (some (di (a - b))) := by
  intro m news s v u Q E S hv hu hQ
  cases hv with | dat hv => cases hv; cases hu with | dat hu => cases hu; exact P.sub_int (hQ.ok (List.Subset.refl _) S.toks2 (.dat (.int _ _)))
theorem op_pow_int {a b : Int} {k : Nat} (hb : b = (k : Int)) (h0 : 0 < k) (h1 : ¬(a == 0 || a == 1) = true) (h2 : ¬(a == -1) = true) (h3 : ¬Builtin.Int.intTooBig (((Builtin.Int.intBits a : Nat) : Int) * b) = true) : OP c (binaryOp .Pow) (di a) (di b) (some (di (a ^ k))) := by
  intro m news s v u Q E S hv hu hQ
  subst hb
  cases hv with | dat hv => cases hv; cases hu with | dat hu => cases hu; exact AutoIntOps.pow_4 (by omega) (by simp; omega) h1 h2 h3 (hQ.ok (List.Subset.refl _) S.toks2 (by rw [Int.toNat_natCast]; exact .dat (.int _ _)))
theorem op_fdiv_int {a b : Int} (hb : 0 < b) (hs : b < 2 ^ 64) : OP c (binaryOp .FloorDiv) (di a) (di b) (some (di (a / b))) := by
  intro m news s v u Q E S hv hu hQ
  cases hv with | dat hv => cases hv; cases hu with | dat hu => cases hu; exact AutoIntOps.floordiv_1 (by simp; omega) (by rw [noPylong hb hs]; decide) (hQ.ok (List.Subset.refl _) S.toks2 (by rw [Int.fdiv_eq_ediv_of_nonneg _ (by omega)]; exact .dat (.int _ _)))
theorem op_eq_int {a b : Int} : OP c (compareOp .Eq) (di a) (di b) (some (db (a == b))) := by
  intro m news s v u Q E S hv hu hQ
  cases hv with | dat hv => cases hv; cases hu with | dat hu => cases hu; exact eq_int (hQ.ok (List.Subset.refl _) S (.dat (.bool _)))
theorem cb_abs {a : Int} : CB c (.builtin "abs") [] [di a] (some (di (if a < 0 then -a else a))) := by
  intro m news s vs Q E S hvs hQ
  refine d1 (P := fun vs => wpAny c.M c.A (call _ vs) Q E s) (fun v hv => ?_) vs hvs
  cases hv with | dat hv => cases hv; exact call_abs_int (fun u k => hQ.ok (List.Subset.refl _) S.toks2 (.dat (.int _ _)))
end
/-! how long an int is -/
def Bits (n : Int) (B : Nat) : Prop := n.natAbs < 2 ^ B
theorem Bits.le {n : Int} {B : Nat} (h : Bits n B) : Builtin.Int.intBits n ≤ B := by
  unfold Builtin.Int.intBits
  split
  · exact Nat.zero_le _
  · rename_i q
    have q : n ≠ 0 := by simpa using q
    have := (Nat.log2_lt (n := n.natAbs) (k := B) (by omega)).mpr h
    omega
theorem Bits.of {n : Int} {B : Nat} (h : Builtin.Int.intBits n ≤ B) : Bits n B := by
  unfold Builtin.Int.intBits at h
  unfold Bits
  split at h
  · rename_i q
    have q : n = 0 := by simpa using q
    subst q
    exact Nat.two_pow_pos B
  · rename_i q
    have q : n ≠ 0 := by simpa using q
    exact (Nat.log2_lt (n := n.natAbs) (k := B) (by omega)).mp (by omega)
theorem Bits.mul {a b : Int} {A B : Nat} (h : Bits a A) (k : Bits b B) : Bits (a * b) (A + B) := by
  unfold Bits at *
  rw [Int.natAbs_mul, Nat.pow_add]
  exact Nat.mul_lt_mul'' h k
theorem Bits.add {a b : Int} {A : Nat} (h : Bits a A) (k : b.natAbs ≤ 2 ^ 40) : Bits (a + b) (A + 41) := by
  unfold Bits at *
  have h1 := Int.natAbs_add_le a b
  have h2 : 1 ≤ 2 ^ A := Nat.two_pow_pos A
  rw [Nat.pow_add]
  have e41 : (2 : Nat) ^ 41 = 2 ^ 40 + 2 ^ 40 := by decide
  have e1 : (1 : Nat) ≤ 2 ^ 40 := by decide
  have h3 : 2 ^ A * 2 ^ 41 = 2 ^ A * 2 ^ 40 + 2 ^ A * 2 ^ 40 := by rw [e41, Nat.mul_add]
  have h4 : 2 ^ A * 1 ≤ 2 ^ A * 2 ^ 40 := Nat.mul_le_mul_left _ e1
  have h5 : 1 * 2 ^ 40 ≤ 2 ^ A * 2 ^ 40 := Nat.mul_le_mul_right _ h2
  omega
theorem mulOk {a b : Int} {A B : Nat} (h : Bits a A) (k : Bits b B) (hAB : A + B ≤ 2 ^ 27) : IntMulOk a b := by
  unfold IntMulOk
  have h1 := h.le
  have h2 := k.le
  have h : Builtin.Int.intTooBig ((Builtin.Int.intBits a : Nat) + (Builtin.Int.intBits b : Nat) : Int) = false := by
    unfold Builtin.Int.intTooBig bitsLine
    exact decide_eq_false (by omega)
  rw [h]
  simp
theorem k_lawmix (w : World) : nsIn (KF w) mainGlobals "_law_mix" = some (some (.ref 476)) := by kernel_rfl
local macro_rules | `(tactic| walk_at "leaf") => `(tactic| first | exact ev_str | exact ev_int | exact ev_none | exact ev_bool | exact ev_local (by assumption) (by with_unfolding_all rfl) (by kernel_rfl) (by kernel_rfl))
def seedI (number salt : Int) : Int := number + salt * 7919 + 12345
def mixI (number salt : Int) : Int := seedI number salt * seedI number salt * seedI number salt % 2305843009213693951
theorem fn_mix (w : World) {number salt : Int} {B : Nat} (hB : B ≤ 1048576) (hn : Bits number B) (h0 : 0 ≤ salt) (h1 : salt ≤ 400) : FN w 0 false 476 [di number, di salt] [] (some (di (mixI number salt))) := by
  have hs : Bits (seedI number salt) (B + 41) := by
    unfold seedI
    rw [Int.add_assoc]
    exact hn.add (by omega)
  refine fn_of (f := 476) (ho := by with_unfolding_all rfl) (by kernel_rfl) (o := .ret (di (mixI number salt))) (binds_ok [("number", di number), ("salt", di salt)] (fun news vs kvs s X a b => ?_) rfl) rfl (fun q => by cases q) (fun mean mg mb base A₀ outer L g₀ os O => ?_) rfl rfl rfl (by simp)
  · obtain ⟨v, v', rfl, a1, a2⟩ := dall2 a
    obtain rfl := kall0 b
    exact ⟨[("number", v), ("salt", v')], BindsTo.of_eq rfl, rfl, a1, rfl, a2, trivial⟩
  · refine ex_cons (ex_assign (d := di (seedI number salt)) O (ev_binop (ev_binop (by walk_at "leaf") (ev_binop (by walk_at "leaf") (by walk_at "leaf") (op_mul_int (.of_right (by decide)))) op_add_int) (by walk_at "leaf") op_add_int) (by kernel_rfl)) ?_
    exact ex_ret (ex_return (ev_binop (d := some (di (mixI number salt))) (ev_binop (ev_binop (by walk_at "leaf") (by walk_at "leaf") (op_mul_int (mulOk hs hs (by omega)))) (by walk_at "leaf") (op_mul_int (mulOk (hs.mul hs) hs (by omega)))) (ev_binop (d := some (di 2305843009213693951)) (ev_binop (by walk_at "leaf") (by walk_at "leaf") (op_pow_int (k := 61) rfl (by decide) (by decide) (by decide) (by decide))) (by walk_at "leaf") op_sub_int) (op_mod_int (by decide))))
end Mine
end
end
section
open PySem PySem.W PyProof.Rows PySem.Spec PySem.Calls
set_option maxRecDepth 100000
set_option linter.unusedVariables false
noncomputable section
namespace Mine
/-! a list that grows in a loop over a range -/
/-- names that hold nothing of the ledger -/
def FlatD (d : D) : Prop := (∃ x, d = .dat x ∧ flatD x = true) ∨ ∃ v, d = .val v
def FlatR (ρ : Rho) : Prop := ∀ y d, ρ y = some d → FlatD d
theorem loc_flat {ρ : Rho} {m : PySem.Str → Option Value} {news : Led} (hf : FlatR ρ) (h : Loc ρ m news) : Loc ρ m [] := fun y d q => by
  obtain ⟨v, a, b⟩ := h y d q
  refine ⟨v, a, ?_⟩
  rcases hf y d q with ⟨x, rfl, hx⟩ | ⟨u, rfl⟩
  · cases b with | dat b => exact .dat (datIn_flat b hx)
  · cases b; exact .val
theorem FlatR.upd {ρ : Rho} {x : PySem.Str} {d : D} (h : FlatR ρ) (hd : FlatD d) : FlatR (upd ρ x d) := fun y d' q => by
  unfold Mine.upd at q
  split at q
  · cases q; exact hd
  · exact h y d' q
theorem flat_int {i : Int} : FlatD (di i) := .inl ⟨_, rfl, rfl⟩
theorem flat_str {x : PySem.Str} : FlatD (ds x) := .inl ⟨_, rfl, rfl⟩
theorem flat_val {v : Value} : FlatD (.val v) := .inr ⟨_, rfl⟩
def Row (c : Cx) (base : Led) (R : Addr) (ρ : Rho) (l : List Dat) (m : PySem.Str → Option Value) (s : Shared) : Prop :=
  (∀ p ∈ base, p.1 ≠ R) ∧ ∃ ys, DatAll [] ys l ∧ St c m ((R, LCg.lst ys) :: base) s ∧ Loc ρ m []
def EXR (c : Cx) (ρ : Rho) (l : List Dat) (R : Addr) (ss : List Stmt) (ρ' : Rho) (l' : List Dat) : Prop :=
  ∀ base m s Q E, PassesOwn c.M c.A c.env E → Row c base R ρ l m s → (∀ m' s', Row c base R ρ' l' m' s' → Q .next s') → wpAny c.M c.A (execs ss c.env) Q E s
section
variable {c : Cx} {m : PySem.Str → Option Value} {news news' : Led} {s s' : Shared} {ρ ρ₁ ρ' : Rho} {l l₁ l' : List Dat} {R : Addr}
theorem exr_nil : EXR c ρ l R [] ρ l := fun base m s Q E _ h hQ => wpAny_execs_nil (hQ m s h)
theorem exr_ex (hc : c.cmp = none) {st : Stmt} {rest : List Stmt} (h : EX1 c ρ st (.next ρ₁)) (hf : FlatR ρ₁) (k : EXR c ρ₁ l R rest ρ' l') : EXR c ρ l R (st :: rest) ρ' l' := by
  rintro base m s Q E hE ⟨hb, ys, hy, S, hρ⟩ hQ
  refine wpAny_execs_cons (h hc m _ s _ E hE S (hρ.mono (List.nil_subset _)) fun m₁ n₁ s₁ hn₁ S₁ hρ₁ => ?_)
  obtain ⟨h₀, G⟩ := S₁.gr
  exact k base m₁ s₁ Q E hE ⟨hb, ys, hy, ⟨S₁.os, S₁.ga, h₀, G.sub hc hn₁⟩, loc_flat hf hρ₁⟩ hQ
theorem exr_if (hc : c.cmp = none) {t : Expr} {body orelse rest : List Stmt} {pos : Pos} {b : Bool} (h : ET c ρ t (some b)) (h1 : b = true → EXR c ρ l R body ρ₁ l₁) (h2 : b = false → EXR c ρ l R orelse ρ₁ l₁) (k : EXR c ρ₁ l₁ R rest ρ' l') :
    EXR c ρ l R (.If t body orelse pos :: rest) ρ' l' := by
  rintro base m s Q E hE ⟨hb, ys, hy, S, hρ⟩ hQ
  refine wpAny_execs_cons (wpAny_If (h.env hc m _ s _ _ S (hρ.mono (List.nil_subset _)) fun n₁ s₁ hn₁ S₁ => ?_))
  obtain ⟨h₀, G⟩ := S₁.gr
  have Rw : Row c base R ρ l m s₁ := ⟨hb, ys, hy, ⟨S₁.os, S₁.ga, h₀, G.sub hc hn₁⟩, hρ⟩
  cases b with
  | true => exact h1 rfl base m s₁ _ E hE Rw fun m' s' Rw' => k base m' s' Q E hE Rw' hQ
  | false => exact h2 rfl base m s₁ _ E hE Rw fun m' s' Rw' => k base m' s' Q E hE Rw' hQ
theorem exr_append (O : c.Ok) (hc : c.cmp = none) {p1 ap cp pos : Pos} {e : Expr} {rest : List Stmt} {d : Dat} (hr : ρ "row" = some (.val (.ref R))) (hk : c.env.kindOf "row" = some .local) (h : EV c ρ e (some (.dat d))) (hd : flatD d = true) (hl : l.length ≤ 1000) {pl : Sem Bool}
    (he : eval (.Call (.Attribute (.Name "row" p1) "append" ap) [e] [] cp) c.en = (do
      let ov ← eval (.Name "row" p1) c.en
      standAt ap.atName
      let (f, first) ← holding [ov] (getMethod ov "append" pl)
      callWith cp f first (backTo cp (starEach [e] c.en)) (backToKw cp (keywordEach [] c.en))))
    (hse : starEach [e] c.en = (false, eval e c.en) :: starEach [] c.en)
    (hi : interactive c.env = false) (hs : swapsWith (.Call (.Attribute (.Name "row" p1) "append" ap) [e] [] cp) none pos.line c.env = pure false)
    (k : EXR c ρ (l ++ [d]) R rest ρ' l') : EXR c ρ l R (.Expr (.Call (.Attribute (.Name "row" p1) "append" ap) [e] [] cp) pos :: rest) ρ' l' := by
  rintro base m s Q E hE ⟨hb, ys, hy, S, hρ⟩ hQ
  refine wpAny_execs_cons (wpAny_Expr_any ?_ hi hs)
  rw [← Cx.en_eq hc]
  have hkn : c.en.kindOf "row" = some .local := by rw [Cx.en_eq hc]; exact hk
  refine methodCall_KW (ev_local O hr hkn (by decide +kernel) m _ s _ _ S (hρ.mono (List.nil_subset _)) fun v n₁ s₁ hn₁ S₁ hv => ?_) he
  cases hv
  obtain ⟨h₁, G₁⟩ := S₁.gr
  refine getMethod_list_append (G₁.N _ (hn₁ (List.mem_cons_self ..))).1 rfl rfl ?_
  have ha : EVs c ρ [e] [.dat d] := evs_cons h evs_nil hse
  refine callWith_of (P := Keepable c (.builtin "list.append")) (by rw [ha.plain, (Kws.all (ρ := ρ) (kws := []) (kds := []) kws_nil).2]; rfl) (fun h q => q) ?_
  refine evalArgs_kw2 (Kws.all (ρ := ρ) (kws := []) (kds := []) kws_nil).1 (ha.run S₁ (hρ.mono (List.nil_subset _)) fun vs n₂ s₂ hn₂ S₂ hvs => ?_) ha.2.1
  obtain ⟨v, rfl, hv⟩ := dall1 hvs
  refine kwAll_nil ⟨keep_plain (fun _ q => by cases q), ?_⟩
  obtain ⟨h₀, G⟩ := S₂.gr
  have Gb := G.sub hc (fun _ hp => hn₂ (hn₁ hp))
  have zR := (Gb.N (R, LCg.lst ys) (List.mem_cons_self ..))
  have hyl : ys.length = l.length := lenOf hy
  refine append_at zR.1 (fun h₅ hs₅ hR₅ => ?_) (by rw [List.size_toArray, sizeLine_eq]; omega)
  have GbF : Fr h₀ c.L s₂.heap m := by have := Gb.F; rwa [Cx.fm_eq hc] at this
  show wpAny c.M c.A (execs rest c.en) Q E _
  rw [Cx.en_eq hc]
  refine k base m { s₂ with heap := h₅ } Q E hE ⟨hb, ys ++ [v], datAll_append hy (.cons (datIn_flat (by cases hv with | dat h => exact h) hd) .nil), ⟨S₂.os, S₂.ga, h₀, Gb.toGr0.at (by rw [Cx.fm_eq hc]; exact GbF.change hs₅ zR.2.1 zR.2.2), fun p hp => ?_, .none hc⟩, hρ⟩ hQ
  rcases List.mem_cons.mp hp with rfl | hp
  · exact ⟨hR₅.trans (congrArg some (LCg.lst_snoc ys v)), zR.2.1, zR.2.2⟩
  · exact ⟨hs₅.extBut _ _ (hb p hp) (Gb.N p (List.mem_cons_of_mem _ hp)).1, (Gb.N p (List.mem_cons_of_mem _ hp)).2⟩
theorem rows_go (O : c.Ok) (hc : c.cmp = none) {x : PySem.Str} {px : Pos} {body : List Stmt} {N : Nat} {I : Addr} (ls : Nat → List Dat) (Pv : Nat → Rho → Prop) (hx : c.env.kindOf x = some .local)
    {base : Led} {Q : Flow → Shared → Prop} {E : Value → Shared → Prop} (hE : PassesOwn c.M c.A c.env E)
    (step : ∀ i ρ₁, i < N → Pv i ρ₁ → FlatR ρ₁ → ∃ ρ₂, Pv (i + 1) ρ₂ ∧ FlatR ρ₂ ∧ EXR c (upd ρ₁ x (di i)) (ls i) R body ρ₂ (ls (i + 1)))
    (hI : ∀ p ∈ base, p.1 ≠ I) (hIR : R ≠ I) (hL : I ≠ c.L) (hg : c.g₀.get? I = none)
    (h0 : Pv 0 ρ) (hf : FlatR ρ) (hS : IsRangeIter s.heap I (0 + ((0 : Nat) : Int) * 1) ((N : Int) - ((0 : Nat) : Int)) 1) (hR : Row c base R ρ (ls 0) m s)
    (hQ : ∀ m' s' ρ₁, Pv N ρ₁ → FlatR ρ₁ → Row c base R ρ₁ (ls N) m' s' → Q .next s') :
    codeAny c.M c.A (.forLoop (.Name x px) (.ref I) body [] c.env) (fun r s' => match r with | .ok f => Q f s' | .error e => cameBackBy c.M c.A c.env E e s') s := by
  have W := Walks.range (prog := P) (w := c.w) (A := c.A) O.hh I 0 1 N
  refine codeAny_forLoop (fun k s' => ∃ i m' ρ', k = N + 1 - i ∧ i ≤ N ∧ Pv i ρ' ∧ FlatR ρ' ∧ Row c base R ρ' (ls i) m' s' ∧ IsRangeIter s'.heap I (0 + (i : Nat) * 1) ((N : Int) - (i : Nat)) 1) ?_ (N + 1)
    ⟨0, m, ρ, rfl, Nat.zero_le _, h0, hf, hR, hS⟩
  rintro k s' ⟨i, m', ρ', rfl, hi, hP, hf', ⟨hb, ys, hy, S', hρ'⟩, hS'⟩
  obtain ⟨h₀, G⟩ := S'.gr
  have fe : ∀ m, c.fm m = m := fun m => Cx.fm_eq hc
  have GF : Fr h₀ c.L s'.heap m' := by have := G.F; rwa [fe] at this
  have hI0 : h₀.get? I = none := G.turn.none_ _ hg
  have hIn : ∀ p ∈ (R, LCg.lst ys) :: base, p.1 ≠ I := fun p hp => by
    rcases List.mem_cons.mp hp with rfl | hp
    · exact hIR
    · exact hI p hp
  have old : ∀ b o, h₀.get? b = some o → b ∉ [I] := fun b o e hb => by
    obtain rfl : b = I := List.mem_singleton.mp hb
    rw [hI0] at e; cases e
  have next : ∀ h₁ : Heap, (∀ b o, b ∉ [I] → s'.heap.get? b = some o → h₁.get? b = some o) → Fr h₀ c.L h₁ m' ∧ News h₀ c.L h₁ ((R, LCg.lst ys) :: base) := fun h₁ hk₁ =>
    ⟨⟨GF.ns.at' fun o e => hk₁ _ o (fun q => hL (List.mem_singleton.mp q).symm) e, fun b o e => hk₁ b o (old b o e) (GF.keep b o e), GF.above⟩, fun p hp => ⟨hk₁ _ _ (fun q => hIn p hp (List.mem_singleton.mp q)) (G.N p hp).1, (G.N p hp).2⟩⟩
  by_cases hlt : i < N
  · refine W.item i _ _ _ hlt hS' fun v h₁ tk₁ hPv hst₁ hk₁ => ?_
    obtain ⟨tv, rfl⟩ := hPv
    obtain ⟨F₁, N₁⟩ := next h₁ hk₁
    have S₁ : St c m' ((R, LCg.lst ys) :: base) { s' with heap := h₁, toks := tk₁ } := S'.heap ⟨h₀, G.at (by rw [fe]; exact F₁) N₁⟩
    refine wpAny_assign_Name (wpAny_storeName_local hx F₁.ns (fun h₂ hn₂ hs₂ => ?_) ?_)
    · have F₂ := F₁.set hn₂ hs₂
      have N₂ := N₁.set hs₂
      have hst₂ : IsRangeIter h₂ I (0 + ((i + 1 : Nat) : Int) * 1) ((N : Int) - ((i + 1 : Nat) : Int)) 1 := W.frame _ _ _ hst₁ fun b hb o e => (hs₂.2 b fun q => by
        subst q
        exact hL (List.mem_singleton.mp hb).symm).trans e
      obtain ⟨oI, hoI⟩ : ∃ oI, h₂.get? I = some oI := ⟨_, hst₂⟩
      have N₃ : News h₀ c.L h₂ ((R, LCg.lst ys) :: (I, oI) :: base) := fun p hp => by
        rcases List.mem_cons.mp hp with rfl | hp
        · exact N₂ _ (List.mem_cons_self ..)
        · rcases List.mem_cons.mp hp with rfl | hp
          · exact ⟨hoI, hL, hI0⟩
          · exact N₂ p (List.mem_cons_of_mem _ hp)
      have S₃ : St c (fun y => if y = x then some (.int (0 + (i : Nat) * 1) tv) else m' y) ((R, LCg.lst ys) :: (I, oI) :: base) { s' with heap := h₂, toks := tk₁ + 1 } := S'.heap ⟨h₀, G.toGr0.at (by rw [fe]; exact F₂), N₃, .none hc⟩
      have hρ₃ : Loc (upd ρ' x (di i)) (fun y => if y = x then some (.int (0 + (i : Nat) * 1) tv) else m' y) [] := by
        have e : (0 + (i : Nat) * 1 : Int) = (i : Int) := by omega
        rw [e]
        exact hρ'.upd (.dat (.int _ _))
      obtain ⟨ρ₂, hP₂, hf₂, hB⟩ := step i ρ' hlt hP hf'
      refine wpAny_passesOwn hE ?_
      refine hB ((I, oI) :: base) _ _ _ E hE ⟨fun p hp => ?_, ys, hy, S₃, hρ₃⟩ fun m₄ s₄ hR₄ => ?_
      · rcases List.mem_cons.mp hp with rfl | hp
        · exact Ne.symm hIR
        · exact hb p hp
      · obtain ⟨hb₄, ys₄, hy₄, S₄, hρ₄⟩ := hR₄
        obtain ⟨h₀', G₄⟩ := S₄.gr
        refine ⟨N + 1 - (i + 1), by omega, i + 1, m₄, ρ₂, rfl, hlt, hP₂, hf₂, ⟨hb, ys₄, hy₄, ⟨S₄.os, S₄.ga, h₀', G₄.sub hc fun p hp => ?_⟩, hρ₄⟩, ?_⟩
        · rcases List.mem_cons.mp hp with rfl | hp
          · exact List.mem_cons_self ..
          · exact List.mem_cons_of_mem _ (List.mem_cons_of_mem _ hp)
        · have e1 := (G₄.N (I, oI) (List.mem_cons_of_mem _ (List.mem_cons_self ..))).1
          exact e1.trans (hoI.symm.trans hst₂)
    · show (c.cs.kind == .class || (c.cs.kind == .module && _)) = false
      rw [O.kind]; rfl
  · obtain rfl : i = N := by omega
    refine W.done _ _ _ hS' fun h₁ tk₁ hk₁ => wpAny_execs_nil ?_
    obtain ⟨F₁, N₁⟩ := next h₁ hk₁
    exact hQ m' _ ρ' hP hf' ⟨hb, ys, hy, S'.heap ⟨h₀, G.at (by rw [fe]; exact F₁) N₁⟩, hρ'⟩
end
end Mine
end
end
section
open PySem PySem.W PyProof.Rows PySem.Spec PySem.Calls
set_option maxRecDepth 100000
set_option linter.unusedVariables false
noncomputable section
namespace Mine
theorem k_range (w : World) : nsIn (KF w) mainGlobals "range" = some none := by kernel_rfl
theorem n_range : ("range" : PySem.Str) ≠ "__name__" := by decide
theorem b_range : bootBuiltins ("range" : PySem.Str) = some (.type "range") := by with_unfolding_all rfl
section
variable {c : Cx} {m : PySem.Str → Option Value} {news news' : Led} {s s' : Shared} {ρ ρ₁ ρ' : Rho}
theorem ex_rows (O : c.Ok) (hc : c.cmp = none) {x : PySem.Str} {p0 p1 p2 px p rp pos : Pos} {e : Expr} {body rest : List Stmt} {o : Out} {N : Nat} (ls : Nat → List Dat) (Pv : Addr → Nat → Rho → Prop) (hx : c.env.kindOf x = some .local) (hrow : c.env.kindOf "row" = some .local) (hrn : c.env.kindOf "range" = some .globalImplicit)
    (hf : FlatR ρ) (hN : N ≤ 1000) (hl0 : ls 0 = []) (hlN : (ls N).length ≤ 1000)
    (he : ∀ R, EV c (upd ρ "row" (.val (.ref R))) e (some (di N))) (h0 : ∀ R, Pv R 0 (upd ρ "row" (.val (.ref R))))
    (step : ∀ R i ρ₁, i < N → Pv R i ρ₁ → FlatR ρ₁ → ∃ ρ₂, Pv R (i + 1) ρ₂ ∧ FlatR ρ₂ ∧ EXR c (upd ρ₁ x (di i)) (ls i) R body ρ₂ (ls (i + 1)))
    (k : ∀ R ρ₁, Pv R N ρ₁ → FlatR ρ₁ → EX c (upd ρ₁ "row" (dl (ls N))) rest o)
    (hkr : ∀ R ρ₁, Pv R N ρ₁ → ρ₁ "row" = some (.val (.ref R)))
    (hsw : swapsWith (.List [] p1) (some (.Name "row" p0)) p2.line c.env = pure false) (hse : starEach [e] c.en = (false, eval e c.en) :: starEach [] c.en)
    (hs : ∀ x, foldedSetIterable (.Call (.Name "range" p) [e] [] rp) c.env x = pure x) :
    EX c ρ (.Assign [.Name "row" p0] (.List [] p1) p2 :: .For (.Name x px) (.Call (.Name "range" p) [e] [] rp) body [] pos :: rest) o := by
  intro _ m news s Q E hE S hρ hQ
  refine wpAny_execs_cons (wpAny_Assign_Name ?_ hsw)
  rw [← Cx.en_eq hc]
  refine List_ ((evs_nil : EVs c ρ [] []).run S hρ fun vs n₁ s₁ hn₁ S₁ hvs => ?_)
  cases vs with
  | cons => exact hvs.elim
  | nil =>
  obtain ⟨h₀, G⟩ := S₁.gr
  have hRn : ∀ p ∈ n₁, p.1 ≠ s₁.heap.objs.size := ne_size G.N
  refine newList_N G.F G.N (fun h' F' N' => ?_) (by decide)
  have S₂ : St c m ((s₁.heap.objs.size, LCg.lst []) :: n₁) { s₁ with heap := h' } := S₁.heap (n := s₁.toks) ⟨h₀, G.at F' N'⟩
  generalize s₁.heap.objs.size = R at hRn S₂
  rw [Cx.en_eq hc]
  refine st_store O hc S₂ hrow fun s₃ S₃ => ?_
  have hρ₃ : Loc (upd ρ "row" (.val (.ref R))) (fun y => if y = "row" then some (.ref R) else m y) [] := (loc_flat hf hρ).upd .val
  have hf₃ : FlatR (upd ρ "row" (.val (.ref R))) := hf.upd flat_val
  refine wpAny_execs_cons (wpAny_For ?_ hs)
  rw [← Cx.en_eq hc]
  have hkn : c.en.kindOf "range" = some .globalImplicit := by rw [Cx.en_eq hc]; exact hrn
  refine wpAny_Call_Name_kw (ev_B O (k_range _) b_range n_range hkn (by decide +kernel) _ _ s₃ _ _ S₃ (hρ₃.mono (List.nil_subset _)) fun v n₄ s₄ hn₄ S₄ hv => ?_)
  cases hv
  have ha : EVs c (upd ρ "row" (.val (.ref R))) [e] [di (N : Int)] := evs_cons (he R) evs_nil hse
  refine callWith_of (P := Keepable c (.type "range")) (by rw [ha.plain, (Kws.all (ρ := ρ) (kws := []) (kds := []) kws_nil).2]; rfl) (fun h q => q) ?_
  refine evalArgs_kw2 (Kws.all (ρ := ρ) (kws := []) (kds := []) kws_nil).1 (ha.run S₄ (hρ₃.mono (List.nil_subset _)) fun vs n₅ s₅ hn₅ S₅ hvs => ?_) ha.2.1
  obtain ⟨v, rfl, hv⟩ := dall1 hvs
  cases hv with | dat hv =>
  cases hv
  rename_i tv
  refine kwAll_nil ⟨keep_plain (fun _ q => by cases q), ?_⟩
  obtain ⟨h₅, G₅⟩ := S₅.gr
  have Gb := G₅.sub hc (fun _ hp => hn₅ (hn₄ hp))
  have hL5 : c.L < s₅.heap.objs.size := by
    have F := Gb.F
    rw [Cx.fm_eq hc] at F
    obtain ⟨o, _, _, ho, _⟩ := F.ns
    exact Heap.lt_size ho
  have hlt5 : ∀ p ∈ (R, LCg.lst []) :: n₁, p.1 < s₅.heap.objs.size := fun p hp => Heap.lt_size (Gb.N p hp).1
  refine call_range_1 ?_
  refine wpAny_pyIter_range (IsRange.new ..) (small_one (by decide) (by decide) (by omega) (by omega)) ?_
  have hsz : Builtin.Range.rangeSize 0 (N : Int) 1 = (N : Int) := by rw [rangeSize_one]; split <;> omega
  rw [hsz, Cx.en_eq hc]
  have hk : ∀ b o, s₅.heap.get? b = some o → ((s₅.heap.push { cls := .type "range", data := .fields #[.int 0 s₅.toks, .int (N : Int) tv, .int 1 (s₅.toks + 1)] }).push { cls := .type "range_iterator", data := .fields #[rawInt 0, rawInt (N : Int), rawInt 1] }).get? b = some o := fun b o e => Heap.get?_push_of_some _ (Heap.get?_push_of_some _ e)
  have S₆ := S₅.heap (n := s₅.toks + 1 + 1) ⟨h₅, Gb.at ((Gb.F.push _).push _) (Gb.N.grown hk)⟩
  have hL6 : c.L ≠ (s₅.heap.push { cls := .type "range", data := .fields #[.int 0 s₅.toks, .int (N : Int) tv, .int 1 (s₅.toks + 1)] }).objs.size := by rw [Heap.size_push]; exact Nat.ne_of_lt (Nat.lt_succ_of_lt hL5)
  refine rows_go (R := R) O hc ls (Pv R) hx hE (step R) (fun p hp => ?_) ?_ ?_ ?_ (h0 R) hf₃ ?_ ⟨hRn, [], by rw [hl0]; exact .nil, S₆, hρ₃⟩ fun m₇ s₇ ρ₇ hP hf₇ hR₇ => ?_
  · rw [Heap.size_push]
    exact Nat.ne_of_lt (Nat.lt_succ_of_lt (hlt5 p (List.mem_cons_of_mem _ hp)))
  · rw [Heap.size_push]
    exact Nat.ne_of_lt (Nat.lt_succ_of_lt (hlt5 _ (List.mem_cons_self ..)))
  · exact Ne.symm hL6
  · refine Gb.fresh_g ?_
    rw [Heap.size_push]
    cases e : h₅.get? (s₅.heap.objs.size + 1) with
    | none => rfl
    | some o => exact absurd (Heap.lt_size (Gb.F.keep _ _ e)) (Nat.not_lt.mpr (Nat.le_succ _))
  · have e1 : (0 + ((0 : Nat) : Int) * 1) = 0 := by simp
    have e2 : ((N : Int) - ((0 : Nat) : Int)) = (N : Int) := by simp
    rw [e1, e2]
    exact Heap.get?_push_size _ rfl
  · obtain ⟨hb, ys, hy, S₇, hρ₇⟩ := hR₇
    refine k R ρ₇ hP hf₇ hc m₇ _ s₇ Q E hE S₇ (fun y d q => ?_) (hQ.sub fun _ hp => List.mem_cons_of_mem _ (hn₁ hp))
    unfold upd at q
    split at q
    · rename_i h
      cases q
      obtain ⟨v, a, b⟩ := hρ₇ _ _ (hkr R ρ₇ hP)
      cases b
      exact ⟨_, by rw [h]; exact a, .dat (.list (List.mem_cons_self ..) (hy.mono (List.nil_subset _)))⟩
    · obtain ⟨v, a, b⟩ := hρ₇ y d q
      exact ⟨v, a, b.mono (List.nil_subset _)⟩
end
end Mine
end
end
section
open PySem PySem.W PyProof.Rows PySem.Spec PySem.Calls
set_option maxRecDepth 100000
set_option linter.unusedVariables false
noncomputable section
namespace Mine
local macro_rules | `(tactic| walk_at "lk") => `(tactic| first | with_unfolding_all rfl | assumption | (refine (upd_ne (by decide +kernel)).trans ?_; walk_at "lk"))
local macro_rules | `(tactic| walk_at "leaf") => `(tactic| first | exact ev_str | exact ev_int | exact ev_none | exact ev_bool | exact ev_local (by assumption) (by walk_at "lk") (by kernel_rfl) (by kernel_rfl))
theorem ex_if_ret {c : Cx} {ρ : Rho} {t : Expr} {body rest : List Stmt} {pos : Pos} {b : Bool} {d : D} (h : ET c ρ t (some b)) (h1 : b = true → EX c ρ body (.ret d)) (h2 : b = false → EX c ρ rest (.ret d)) : EX c ρ (.If t body [] pos :: rest) (.ret d) := by
  cases b with
  | true => exact ex_ret (ex_if h (fun _ => h1 rfl) (fun q => by cases q))
  | false => exact ex_cons (ex_if h (fun q => by cases q) (fun _ => ex_nil)) (h2 rfl)
/-- a text of ASCII signs without a line feed, of at most n -/
def Sh (x : PySem.Str) (n : Nat) : Prop := ∃ l, x = S l ∧ (∀ k ∈ l, k < 128 ∧ k ≠ 10) ∧ l.length ≤ n
theorem Sh.app {x y : PySem.Str} {a b : Nat} (h : Sh x a) (k : Sh y b) : Sh (x ++ y) (a + b) := by
  obtain ⟨l, rfl, h1, h2⟩ := h
  obtain ⟨l', rfl, k1, k2⟩ := k
  refine ⟨l ++ l', S_app l l', fun c hc => ?_, by rw [List.length_append]; omega⟩
  rcases List.mem_append.mp hc with q | q
  · exact h1 c q
  · exact k1 c q
theorem Sh.mono {x : PySem.Str} {a b : Nat} (h : Sh x a) (hab : a ≤ b) : Sh x b := by
  obtain ⟨l, e, h1, h2⟩ := h
  exact ⟨l, e, h1, Nat.le_trans h2 hab⟩
theorem Sh.len {x : PySem.Str} {a : Nat} (h : Sh x a) : x.length ≤ a := by
  obtain ⟨l, rfl, h1, h2⟩ := h
  rw [S_len]; exact h2
def shB (x : PySem.Str) (n : Nat) : Bool := x.cps.toList.all (fun k => decide (k < 128) && decide (k ≠ 10)) && decide (x.cps.toList.length ≤ n)
theorem sh_of {x : PySem.Str} {n : Nat} (h : shB x n = true) : Sh x n := by
  unfold shB at h
  rw [Bool.and_eq_true, List.all_eq_true, decide_eq_true_iff] at h
  refine ⟨x.cps.toList, (S_of x).symm, fun k hk => ?_, h.2⟩
  have := h.1 k hk
  rw [Bool.and_eq_true, decide_eq_true_iff, decide_eq_true_iff] at this
  exact this
theorem tS_tab : ∀ k, k < 100 → shB (tS (k : Nat)) 2 = true := by decide +kernel
theorem sh_tS {i : Int} (h0 : 0 ≤ i) (h1 : i < 100) : Sh (tS i) 2 := by
  obtain ⟨k, rfl⟩ := Int.eq_ofNat_of_zero_le h0
  exact sh_of (tS_tab k (by omega))
theorem lawS_tab : ∀ k, k < 63 → shB (Txt.item lawok (k : Nat)) 1 = true := by decide +kernel
def lawS (i : Int) : PySem.Str := Txt.item lawok i
theorem sh_law {i : Int} (h0 : 0 ≤ i) (h1 : i < 63) : Sh (lawS i) 1 := by
  obtain ⟨k, rfl⟩ := Int.eq_ofNat_of_zero_le h0
  exact sh_of (lawS_tab k (by omega))
theorem ev_lawok {c : Cx} {ρ : Rho} (O : c.Ok) {p1 pos : Pos} {e : Expr} {i : Int} (hl : c.en.kindOf "_law_ok" = some .globalImplicit) (he : EV c ρ e (some (di i))) (h0 : 0 ≤ i) (h1 : i < 63)
    (hs : ∀ (v i : Value), subscripted e false v i = operate [v, i] (getItem v i)) (ht : ∀ o r : Value, letTemporaryGo (.Name "_law_ok" p1) o r = pure ()) : EV c ρ (.Subscript (.Name "_law_ok" p1) e pos) (some (ds (lawS i))) := by
  obtain ⟨t, e1⟩ := k_ok c.w
  have hlen : lawok.length = 63 := by decide +kernel
  exact ev_sub (ev_Kstr O e1 hl (by decide +kernel)) he (sub_str (by unfold fitsSsize; simp; omega) (by rw [hlen]; omega) (by rw [hlen]; omega) hs ht)
def wordS (n : Int) : PySem.Str :=
  if (n % 8 == 0) = true then PySem.Str.ofString "0"
  else if (n % 8 == 1) = true then tS (n / 8 % 30)
  else if (n % 8 == 2) = true then PySem.Str.ofString "0" ++ tS (n / 8 % 9)
  else if (n % 8 == 3) = true then lawS (10 + n / 8 % 52)
  else if (n % 8 == 4) = true then lawS (10 + n / 8 % 52) ++ PySem.Str.ofString "-" ++ tS (n / 8 % 3)
  else if (n % 8 == 5) = true then PySem.Str.ofString "-"
  else if (n % 8 == 6) = true then tS (n / 8 % 10) ++ lawS (n / 8 % 63)
  else if (n / 8 % 4 == 0) = true then PySem.Str.ofString "" else PySem.Str.ofString "x"
set_option maxHeartbeats 2000000 in
theorem fn_word (w : World) {n : Int} (h0 : 0 ≤ n) : FN w 0 false 483 [di n] [] (some (ds (wordS n))) := by
  refine fn_of (f := 483) (ho := by with_unfolding_all rfl) (by kernel_rfl) (o := .ret (ds (wordS n))) (binds_ok [("n", di n)] (fun news vs kvs s X a b => ?_) rfl) rfl (fun q => by cases q) (fun mean mg mb base A₀ outer L g₀ os O => ?_) rfl rfl rfl (by simp)
  · obtain ⟨v, rfl, a1⟩ := dall1 a
    obtain rfl := kall0 b
    exact ⟨[("n", v)], BindsTo.of_eq rfl, rfl, a1, trivial⟩
  · refine ex_cons (ex_assign (d := di (n % 8)) O (ev_binop (by walk_at "leaf") (by walk_at "leaf") (op_mod_int (by decide))) (by kernel_rfl)) ?_
    refine ex_cons (ex_assign (d := di (n / 8)) O (ev_binop (by walk_at "leaf") (by walk_at "leaf") (op_fdiv_int (by decide) (by decide))) (by kernel_rfl)) ?_
    have str : ∀ {p1 p3 : Pos} {e : Expr} {ρ : Rho} {i : Int} {c : Cx} (O : c.Ok) (hl : c.en.kindOf "str" = some .globalImplicit) (he : EV c ρ e (some (di i))) (hs : starEach [e] c.en = (false, eval e c.en) :: starEach [] c.en) (h0 : 0 ≤ i) (h1 : i < 100), EV c ρ (.Call (.Name "str" p1) [e] [] p3) (some (ds (tS i))) := fun O hl he hs h0 h1 => ev_call (ev_B O (k_str _) Boot.str n_str hl (by decide +kernel)) (evs_cons he evs_nil hs) kws_nil fun _ => (cb_str_int O (by
      have : (10 : Nat) ^ 2 ≤ 10 ^ 4300 := Nat.pow_le_pow_right (by decide) (by decide)
      have e : (10 : Nat) ^ 2 = 100 := by decide
      omega)).callable (fun _ q => by cases q)
    refine ex_if_ret (et_compare (by walk_at "leaf") (by walk_at "leaf") op_eq_int) (fun q0 => ?_) fun q0 => ?_
    · have e : wordS n = PySem.Str.ofString "0" := by unfold wordS; rw [if_pos q0]
      rw [e]; exact ex_ret (ex_return ev_str)
    refine ex_if_ret (et_compare (by walk_at "leaf") (by walk_at "leaf") op_eq_int) (fun q1 => ?_) fun q1 => ?_
    · have e : wordS n = tS (n / 8 % 30) := by unfold wordS; rw [if_neg (ne_true_of_eq_false q0), if_pos q1]
      rw [e]; exact ex_ret (ex_return (str O (by kernel_rfl) (ev_binop (by walk_at "leaf") (by walk_at "leaf") (op_mod_int (by decide))) rfl (by omega) (by omega)))
    refine ex_if_ret (et_compare (by walk_at "leaf") (by walk_at "leaf") op_eq_int) (fun q2 => ?_) fun q2 => ?_
    · have e : wordS n = PySem.Str.ofString "0" ++ tS (n / 8 % 9) := by unfold wordS; rw [if_neg (ne_true_of_eq_false q0), if_neg (ne_true_of_eq_false q1), if_pos q2]
      have l9 := (sh_tS (i := n / 8 % 9) (by omega) (by omega)).len
      have l0 : (PySem.Str.ofString "0").length = 1 := by decide
      rw [e]; exact ex_ret (ex_return (ev_binop ev_str (str O (by kernel_rfl) (ev_binop (by walk_at "leaf") (by walk_at "leaf") (op_mod_int (by decide))) rfl (by omega) (by omega)) (op_add_str (by omega))))
    have lw : ∀ {k : Nat}, k ≤ 63 → 0 < k → (lawS (n / 8 % k)).length ≤ 1 := fun {k} h1 h2 => (sh_law (Int.emod_nonneg _ (by omega)) (by have := Int.emod_lt_of_pos (n / 8) (show (0 : Int) < k by omega); omega)).len
    have len1 : (PySem.Str.ofString "-").length = 1 := by decide
    have l52 : (lawS (10 + n / 8 % 52)).length ≤ 1 := (sh_law (by omega) (by omega)).len
    refine ex_if_ret (et_compare (by walk_at "leaf") (by walk_at "leaf") op_eq_int) (fun q3 => ?_) fun q3 => ?_
    · have e : wordS n = lawS (10 + n / 8 % 52) := by unfold wordS; rw [if_neg (ne_true_of_eq_false q0), if_neg (ne_true_of_eq_false q1), if_neg (ne_true_of_eq_false q2), if_pos q3]
      rw [e]; exact ex_ret (ex_return (ev_lawok O (by kernel_rfl) (ev_binop ev_int (ev_binop (by walk_at "leaf") (by walk_at "leaf") (op_mod_int (by decide))) op_add_int) (by omega) (by omega) (fun _ _ => rfl) (fun _ _ => rfl)))
    refine ex_if_ret (et_compare (by walk_at "leaf") (by walk_at "leaf") op_eq_int) (fun q4 => ?_) fun q4 => ?_
    · have e : wordS n = lawS (10 + n / 8 % 52) ++ PySem.Str.ofString "-" ++ tS (n / 8 % 3) := by unfold wordS; rw [if_neg (ne_true_of_eq_false q0), if_neg (ne_true_of_eq_false q1), if_neg (ne_true_of_eq_false q2), if_neg (ne_true_of_eq_false q3), if_pos q4]
      have l3 := (sh_tS (i := n / 8 % 3) (by omega) (by omega)).len
      rw [e]; exact ex_ret (ex_return (ev_binop (ev_binop (ev_lawok O (by kernel_rfl) (ev_binop ev_int (ev_binop (by walk_at "leaf") (by walk_at "leaf") (op_mod_int (by decide))) op_add_int) (by omega) (by omega) (fun _ _ => rfl) (fun _ _ => rfl)) ev_str (op_add_str (by omega))) (str O (by kernel_rfl) (ev_binop (by walk_at "leaf") (by walk_at "leaf") (op_mod_int (by decide))) rfl (by omega) (by omega)) (op_add_str (by rw [PySem.strLen_append]; omega))))
    refine ex_if_ret (et_compare (by walk_at "leaf") (by walk_at "leaf") op_eq_int) (fun q5 => ?_) fun q5 => ?_
    · have e : wordS n = PySem.Str.ofString "-" := by unfold wordS; rw [if_neg (ne_true_of_eq_false q0), if_neg (ne_true_of_eq_false q1), if_neg (ne_true_of_eq_false q2), if_neg (ne_true_of_eq_false q3), if_neg (ne_true_of_eq_false q4), if_pos q5]
      rw [e]; exact ex_ret (ex_return ev_str)
    refine ex_if_ret (et_compare (by walk_at "leaf") (by walk_at "leaf") op_eq_int) (fun q6 => ?_) fun q6 => ?_
    · have e : wordS n = tS (n / 8 % 10) ++ lawS (n / 8 % 63) := by unfold wordS; rw [if_neg (ne_true_of_eq_false q0), if_neg (ne_true_of_eq_false q1), if_neg (ne_true_of_eq_false q2), if_neg (ne_true_of_eq_false q3), if_neg (ne_true_of_eq_false q4), if_neg (ne_true_of_eq_false q5), if_pos q6]
      have l10 := (sh_tS (i := n / 8 % 10) (by omega) (by omega)).len
      have l63 : (lawS (n / 8 % 63)).length ≤ 1 := (sh_law (by omega) (by omega)).len
      rw [e]; exact ex_ret (ex_return (ev_binop (str O (by kernel_rfl) (ev_binop (by walk_at "leaf") (by walk_at "leaf") (op_mod_int (by decide))) rfl (by omega) (by omega)) (ev_lawok O (by kernel_rfl) (ev_binop (by walk_at "leaf") (by walk_at "leaf") (op_mod_int (by decide))) (by omega) (by omega) (fun _ _ => rfl) (fun _ _ => rfl)) (op_add_str (by omega))))
    have e : wordS n = if (n / 8 % 4 == 0) = true then PySem.Str.ofString "" else PySem.Str.ofString "x" := by unfold wordS; rw [if_neg (ne_true_of_eq_false q0), if_neg (ne_true_of_eq_false q1), if_neg (ne_true_of_eq_false q2), if_neg (ne_true_of_eq_false q3), if_neg (ne_true_of_eq_false q4), if_neg (ne_true_of_eq_false q5), if_neg (ne_true_of_eq_false q6)]
    rw [e]
    refine ex_ret (ex_return (ev_ifexp (b := n / 8 % 4 == 0) (et_compare (ev_binop (by walk_at "leaf") (by walk_at "leaf") (op_mod_int (by decide))) (by walk_at "leaf") op_eq_int) (fun q => ?_) (fun q => ?_)))
    · rw [if_pos q]; exact ev_str
    · rw [if_neg (ne_true_of_eq_false q)]; exact ev_str
theorem sh_word {n : Int} (h0 : 0 ≤ n) : Sh (wordS n) 4 := by
  unfold wordS
  split
  · exact sh_of (by decide +kernel)
  split
  · exact (sh_tS (by omega) (by omega)).mono (by decide)
  split
  · exact ((sh_of (n := 1) (by decide +kernel)).app (sh_tS (by omega) (by omega))).mono (by decide)
  split
  · exact (sh_law (by omega) (by omega)).mono (by decide)
  split
  · exact (((sh_law (by omega) (by omega)).app (sh_of (n := 1) (by decide +kernel))).app (sh_tS (by omega) (by omega))).mono (by decide)
  split
  · exact sh_of (by decide +kernel)
  split
  · exact ((sh_tS (by omega) (by omega)).app (sh_law (by omega) (by omega))).mono (by decide)
  split
  · exact sh_of (by decide +kernel)
  · exact sh_of (by decide +kernel)
end Mine
end
end
section
open PySem PySem.W PyProof.Rows PySem.Spec PySem.Calls
set_option maxRecDepth 100000
set_option linter.unusedVariables false
noncomputable section
namespace Mine
local macro_rules | `(tactic| walk_at "lk") => `(tactic| first | with_unfolding_all rfl | assumption | (refine (upd_ne (by decide +kernel)).trans ?_; walk_at "lk"))
local macro_rules | `(tactic| walk_at "leaf") => `(tactic| first | exact ev_str | exact ev_int | exact ev_none | exact ev_bool | exact ev_local (by assumption) (by walk_at "lk") (by kernel_rfl) (by kernel_rfl))
theorem sh_join {n : Nat} : ∀ {l : List PySem.Str}, (∀ x ∈ l, Sh x n) → Sh (Txt.join (PySem.Str.ofString ".") l) (l.length * (n + 1)) := by
  intro l h
  obtain ⟨ps, rfl⟩ := as_S l
  rw [sDot, txt_join]
  have hp : ∀ p ∈ ps, (∀ k ∈ p, k < 128 ∧ k ≠ 10) ∧ p.length ≤ n := fun p hp => by
    obtain ⟨l, e, h1, h2⟩ := h (S p) (List.mem_map.mpr ⟨p, hp, rfl⟩)
    rw [S_inj] at e; subst e; exact ⟨h1, h2⟩
  refine ⟨_, rfl, fun k hk => ?_, ?_⟩
  · rcases jn_mem hk with rfl | ⟨p, hp', hk'⟩
    · decide
    · exact (hp p hp').1 k hk'
  · rw [List.length_map]
    by_cases hne : ps = []
    · subst hne; exact Nat.zero_le _
    · have h1 := jn_sum 46 hne
      have h2 : (ps.map fun p => p.length).sum ≤ ps.length * n := by
        clear h h1 hne
        induction ps with
        | nil => exact Nat.zero_le _
        | cons a r ih =>
          have := ih fun p hq => hp p (List.mem_cons_of_mem _ hq)
          have := (hp a (List.mem_cons_self ..)).2
          rw [List.map_cons, List.sum_cons, List.length_cons, Nat.add_mul]; omega
      rw [Nat.mul_add]; omega
theorem sum_sh {n : Nat} {l : List PySem.Str} (h : ∀ x ∈ l, Sh x n) : (l.map (·.length)).sum ≤ l.length * n := by
  induction l with
  | nil => exact Nat.zero_le _
  | cons a r ih =>
    have := ih fun p hq => h p (List.mem_cons_of_mem _ hq)
    have := (h a (List.mem_cons_self ..)).len
    rw [List.map_cons, List.sum_cons, List.length_cons, Nat.add_mul]; omega
/-! _law_tail -/
def nT (n : Int) : Nat → Int
  | 0 => n
  | i + 1 => nT n i / 3 / 4096
theorem nT_nonneg {n : Int} (h : 0 ≤ n) : ∀ i, 0 ≤ nT n i
  | 0 => h
  | i + 1 => by
    have := nT_nonneg h i
    show 0 ≤ nT n i / 3 / 4096
    omega
def wT (n : Int) (i : Nat) : PySem.Str := wordS (nT n i / 3 % 4096)
def rowsT (n : Int) (i : Nat) : List PySem.Str := (List.range i).map (wT n)
theorem rowsT_succ (n : Int) (i : Nat) : rowsT n (i + 1) = rowsT n i ++ [wT n i] := by unfold rowsT; rw [List.range_succ, List.map_append]; rfl
def tailS (n : Int) : PySem.Str := Txt.join (PySem.Str.ofString ".") (rowsT n (n % 3 + 1).toNat)
theorem rowsT_sh {n : Int} (h : 0 ≤ n) (i : Nat) : ∀ x ∈ rowsT n i, Sh x 4 := fun x hx => by
  obtain ⟨j, _, rfl⟩ := List.mem_map.mp hx
  have := nT_nonneg h j
  exact sh_word (by omega)
theorem rowsT_len (n : Int) (i : Nat) : (rowsT n i).length = i := by unfold rowsT; rw [List.length_map, List.length_range]
theorem sh_tail {n : Int} (h : 0 ≤ n) : Sh (tailS n) 15 := (sh_join (rowsT_sh h _)).mono (by rw [rowsT_len]; omega)
theorem k_word (w : World) : nsIn (KF w) mainGlobals "_law_word" = some (some (.ref 483)) := by kernel_rfl
set_option maxHeartbeats 2000000 in
theorem fn_tail (w : World) {n : Int} (h0 : 0 ≤ n) : FN w 1 false 490 [di n] [] (some (ds (tailS n))) := by
  refine fn_of (f := 490) (ho := by with_unfolding_all rfl) (by kernel_rfl) (o := .ret (ds (tailS n))) (binds_ok [("n", di n)] (fun news vs kvs s X a b => ?_) rfl) rfl (fun q => by cases q) (fun mean mg mb base A₀ outer L g₀ os O => ?_) rfl rfl rfl (by simp)
  · obtain ⟨v, rfl, a1⟩ := dall1 a
    obtain rfl := kall0 b
    exact ⟨[("n", v)], BindsTo.of_eq rfl, rfl, a1, trivial⟩
  · have hN : (((n % 3 + 1).toNat : Nat) : Int) = n % 3 + 1 := by omega
    refine ex_rows (N := (n % 3 + 1).toNat) O rfl (fun i => (rowsT n i).map .str) (fun R i ρ => ρ "n" = some (di (nT n i)) ∧ ρ "row" = some (.val (.ref R))) (by kernel_rfl) (by kernel_rfl) (by kernel_rfl) (fun y d q => ?_) (by omega) rfl (by rw [List.length_map, rowsT_len]; omega) (fun R => ?_) (fun R => ⟨by with_unfolding_all rfl, by with_unfolding_all rfl⟩) (fun R i ρ₁ hi hP hf => ?_) (fun R ρ₁ hP hf => ?_) (fun R ρ₁ hP => hP.2) rfl rfl (fun _ => rfl)
    · unfold rho at q
      simp only [List.reverse_cons, List.reverse_nil, List.nil_append, List.lookup_cons, List.lookup_nil] at q
      split at q
      · cases q; exact flat_int
      · cases q
    · rw [hN]
      exact ev_binop (ev_binop (by walk_at "leaf") (by walk_at "leaf") (op_mod_int (by decide))) (by walk_at "leaf") op_add_int
    · have hn := nT_nonneg h0 i
      obtain ⟨p1, p2⟩ := hP
      refine ⟨upd (upd (upd ρ₁ "k" (di i)) "n" (di (nT n i / 3))) "n" (di (nT n i / 3 / 4096)), ⟨by with_unfolding_all rfl, by walk_at "lk"⟩, ((hf.upd flat_int).upd flat_int).upd flat_int, ?_⟩
      refine exr_ex (ρ₁ := upd (upd ρ₁ "k" (di i)) "n" (di (nT n i / 3))) rfl (ex_assign O (ev_binop (by walk_at "leaf") (by walk_at "leaf") (op_fdiv_int (by decide) (by decide))) (by kernel_rfl)) ((hf.upd flat_int).upd flat_int) ?_
      refine exr_append (d := .str (wT n i)) O rfl (by walk_at "lk") (by kernel_rfl) (ev_call (ev_K O (k_word _) (by kernel_rfl) (by kernel_rfl)) (evs_cons (ev_binop (by walk_at "leaf") (by walk_at "leaf") (op_mod_int (by decide))) evs_nil) kws_nil fun _ => callable_fn O (fn_word w (by omega)) (by show 0 < 1; decide) (fun q => by cases q) (by kernel_rfl)) rfl (by rw [List.length_map, rowsT_len]; omega) rfl rfl rfl rfl ?_
      rw [show (rowsT n (i + 1)).map Dat.str = (rowsT n i).map .str ++ [.str (wT n i)] by rw [rowsT_succ, List.map_append]; rfl]
      exact exr_ex rfl (ex_assign O (ev_binop (by walk_at "leaf") (by walk_at "leaf") (op_fdiv_int (by decide) (by decide))) (by kernel_rfl)) (((hf.upd flat_int).upd flat_int).upd flat_int) exr_nil
    · have hs := sum_sh (rowsT_sh h0 (n % 3 + 1).toNat)
      rw [rowsT_len] at hs
      have l1 : (PySem.Str.ofString ".").length = 1 := by decide
      exact ex_ret (ex_return (ev_method ev_str (gm_join_list (l := rowsT n (n % 3 + 1).toNat) (by rw [rowsT_len, l1]; omega)) (evs_cons (by walk_at "leaf") evs_nil) kws_nil))
end Mine
end
end
section
open PySem PySem.W PyProof.Rows PySem.Spec PySem.Calls
set_option maxRecDepth 100000
set_option linter.unusedVariables false
noncomputable section
namespace Mine
open Builtin Builtin.Str PySem.StrLaws PySem.NumText
/-! _law_text: what it answers -/
theorem upd_same {ρ : Rho} {x : PySem.Str} {d : D} (h : ρ x = some d) : upd ρ x d = ρ := by
  funext y
  unfold upd
  split
  · rename_i q; rw [q, h]
  · rfl
def absI (n : Int) : Int := if n < 0 then -n else n
theorem absI_nonneg (n : Int) : 0 ≤ absI n := by unfold absI; split <;> omega
def nX (n : Int) : Nat → Int
  | 0 => n
  | i + 1 => nX n i / 3 / 16
theorem nX_nonneg {n : Int} (h : 0 ≤ n) : ∀ i, 0 ≤ nX n i
  | 0 => h
  | i + 1 => by
    have := nX_nonneg h i
    show 0 ≤ nX n i / 3 / 16
    omega
def itemS (number a : Int) : PySem.Str :=
  if (a % 16 == 0) = true then PySem.Str.ofString "0"
  else if (a % 16 == 1) = true then PySem.Str.ofString "0" ++ tS (a / 16 % 10)
  else if (a % 16 == 2) = true then tS (absI number % 1000000000000000000000000000000)
  else tS (a / 16 % 20)
/-- not empty, ASCII, at most n -/
def Sh1 (x : PySem.Str) (n : Nat) : Prop := Sh x n ∧ 1 ≤ x.length
theorem tS_any {i : Int} (h : 0 ≤ i) {n : Nat} (h1 : i < 10 ^ n) (hn : 1 ≤ n) : Sh1 (tS i) n := by
  obtain ⟨k, rfl⟩ := Int.eq_ofNat_of_zero_le h
  have e := PySem.W.KIN.signs_num k
  have hk : k < 10 ^ n := by
    have : ((k : Nat) : Int) < ((10 ^ n : Nat) : Int) := by rw [Int.natCast_pow]; exact h1
    exact_mod_cast this
  have hl : (Nat.toDigits 10 k).length ≤ n := toDigits_len_pow (by decide) hn hk
  have hp : 1 ≤ (Nat.toDigits 10 k).length := toDigits_len_ge 10 k
  refine ⟨⟨_, (S_of _).symm, fun c hc => ?_, ?_⟩, ?_⟩
  · have : c ∈ (PySem.Str.ofString (toString ((k : Nat) : Int))).cps.toList := hc
    rw [e] at this
    obtain ⟨d, hd, rfl⟩ := List.mem_map.mp this
    have r := digit_range (Nat.isDigit_of_mem_toDigits (by decide) (by decide) hd)
    omega
  · show (PySem.Str.ofString (toString ((k : Nat) : Int))).cps.toList.length ≤ n
    rw [e, List.length_map]; exact hl
  · show 1 ≤ (PySem.Str.ofString (toString ((k : Nat) : Int))).cps.size
    rw [← Array.length_toList, e, List.length_map]; exact hp
theorem Sh1.app {x y : PySem.Str} {a b : Nat} (h : Sh1 x a) (k : Sh y b) : Sh1 (x ++ y) (a + b) := ⟨h.1.app k, by rw [PySem.strLen_append]; have := h.2; omega⟩
theorem Sh1.mono {x : PySem.Str} {a b : Nat} (h : Sh1 x a) (hab : a ≤ b) : Sh1 x b := ⟨h.1.mono hab, h.2⟩
theorem sh_item {number a : Int} (h : 0 ≤ a) : Sh1 (itemS number a) 30 := by
  unfold itemS
  split
  · exact ⟨sh_of (by decide +kernel), by decide⟩
  split
  · exact (Sh1.app (a := 1) ⟨sh_of (by decide +kernel), by decide⟩ (sh_tS (by omega) (by omega))).mono (by decide)
  split
  · have h0 := absI_nonneg number
    have e30 : (10 : Int) ^ 30 = 1000000000000000000000000000000 := by decide
    exact tS_any (n := 30) (by omega) (by omega) (by decide)
  · have e2 : (10 : Int) ^ 2 = 100 := by decide
    exact (tS_any (n := 2) (by omega) (by omega) (by decide)).mono (by decide)
def wX (number n : Int) (i : Nat) : PySem.Str := itemS number (nX n i / 3)
def rowsX (number n : Int) (i : Nat) : List PySem.Str := (List.range i).map (wX number n)
theorem rowsX_succ (number n : Int) (i : Nat) : rowsX number n (i + 1) = rowsX number n i ++ [wX number n i] := by unfold rowsX; rw [List.range_succ, List.map_append]; rfl
theorem rowsX_sh {number n : Int} (h : 0 ≤ n) (i : Nat) : ∀ x ∈ rowsX number n i, Sh1 x 30 := fun x hx => by
  obtain ⟨j, _, rfl⟩ := List.mem_map.mp hx
  have := nX_nonneg h j
  exact sh_item (by omega)
theorem rowsX_len (number n : Int) (i : Nat) : (rowsX number n i).length = i := by unfold rowsX; rw [List.length_map, List.length_range]
def textA (number n : Int) : PySem.Str := Txt.join (PySem.Str.ofString ".") (rowsX number n (n % 3 + 1).toNat)
theorem join_pos {l : List PySem.Str} (hne : l ≠ []) (h : ∀ x ∈ l, 1 ≤ x.length) : 1 ≤ (Txt.join (PySem.Str.ofString ".") l).length := by
  obtain ⟨ps, rfl⟩ := as_S l
  rw [sDot, txt_join, S_len]
  match ps, hne with
  | p :: r, _ =>
    have h1 := jn_len 46 (List.mem_cons_self (a := p) (l := r))
    have h2 := h (S p) (List.mem_cons_self ..)
    rw [S_len] at h2; omega
theorem sh_textA {number n : Int} (h : 0 ≤ n) : Sh1 (textA number n) 93 := by
  refine ⟨(sh_join fun x hx => (rowsX_sh h _ x hx).1).mono (by rw [rowsX_len]; omega), join_pos (fun q => ?_) fun x hx => (rowsX_sh h _ x hx).2⟩
  have := rowsX_len number n (n % 3 + 1).toNat
  rw [q] at this
  have : (n % 3 + 1).toNat = 0 := this.symm
  omega
def textB (text one other : PySem.Str) (n : Int) : PySem.Str :=
  if (n % 8 == 2) = true then text ++ PySem.Str.ofString "-"
  else if (n % 8 == 3) = true then text ++ PySem.Str.ofString "+"
  else if (n % 8 == 4) = true then text ++ PySem.Str.ofString "-" ++ one
  else if (n % 8 == 5) = true then text ++ PySem.Str.ofString "+" ++ one
  else if (n % 8 == 6) = true then text ++ PySem.Str.ofString "-" ++ one ++ PySem.Str.ofString "+" ++ other
  else if (n % 8 == 7) = true then text ++ (if (n / 8 % 2 == 0) = true then PySem.Str.ofString "-+" ++ other else PySem.Str.ofString "-" ++ one ++ PySem.Str.ofString "+")
  else text
theorem sh1c {x : PySem.Str} (h : shB x 2 = true) : Sh x 2 := sh_of h
theorem sh_textB {text one other : PySem.Str} {n : Int} (h : Sh1 text 93) (h1 : Sh one 15) (h2 : Sh other 15) : Sh1 (textB text one other n) 130 := by
  have m1 : Sh (PySem.Str.ofString "-") 2 := sh_of (by decide +kernel)
  have m2 : Sh (PySem.Str.ofString "+") 2 := sh_of (by decide +kernel)
  have m3 : Sh (PySem.Str.ofString "-+") 2 := sh_of (by decide +kernel)
  unfold textB
  split
  · exact (h.app m1).mono (by decide)
  split
  · exact (h.app m2).mono (by decide)
  split
  · exact ((h.app m1).app h1).mono (by decide)
  split
  · exact ((h.app m2).app h1).mono (by decide)
  split
  · exact ((((h.app m1).app h1).app m2).app h2).mono (by decide)
  split
  · split
    · exact (h.app (m3.app h2)).mono (by decide)
    · exact (h.app ((m1.app h1).app m2)).mono (by decide)
  · exact h.mono (by decide)
def spoilsS : PySem.Str := PySem.Str.ofString "0a-.+_ ~"
def textC (text : PySem.Str) (spoil : Int) : PySem.Str :=
  if (spoil % 6 == 0) = true then Txt.slice text none (some (spoil / 6 % (text.length + 1))) ++ Txt.item spoilsS (spoil / 50 % 8) ++ Txt.slice text (some (spoil / 6 % (text.length + 1))) none
  else if (spoil % 6 == 1) = true then Txt.slice text none (some (spoil / 6 % text.length)) ++ Txt.slice text (some (spoil / 6 % text.length + 1)) none
  else text
theorem sh_cut {x : PySem.Str} {n : Nat} {i : Int} (h : Sh x n) (h0 : 0 ≤ i) (h1 : i ≤ x.length) : Sh (Txt.slice x none (some i)) n ∧ Sh (Txt.slice x (some i) none) n := by
  obtain ⟨l, rfl, h2, h3⟩ := h
  obtain ⟨k, rfl⟩ := Int.eq_ofNat_of_zero_le h0
  rw [S_len] at h1
  have hk : k ≤ l.length := by omega
  have e : l = l.take k ++ l.drop k := (List.take_append_drop k l).symm
  have e1 : ((l.take k).length : Int) = (k : Int) := by rw [List.length_take]; omega
  have s1 : Txt.slice (S l) none (some (k : Int)) = S (l.take k) := by
    have := slice_to (a := l.take k) (b := l.drop k)
    rw [← e, e1] at this
    exact this
  have s2 : Txt.slice (S l) (some (k : Int)) none = S (l.drop k) := by
    have := slice_from (a := l.take k) (b := l.drop k)
    rw [← e, e1] at this
    exact this
  rw [s1, s2]
  exact ⟨⟨_, rfl, fun c hc => h2 c (List.mem_of_mem_take hc), by rw [List.length_take]; omega⟩, ⟨_, rfl, fun c hc => h2 c (List.mem_of_mem_drop hc), by rw [List.length_drop]; omega⟩⟩
theorem spoils_tab : ∀ k, k < 8 → shB (Txt.item spoilsS (k : Nat)) 1 = true := by decide +kernel
theorem sh_spoils {i : Int} (h0 : 0 ≤ i) (h1 : i < 8) : Sh (Txt.item spoilsS i) 1 := by
  obtain ⟨k, rfl⟩ := Int.eq_ofNat_of_zero_le h0
  exact sh_of (spoils_tab k (by omega))
theorem sh_textC {text : PySem.Str} {spoil : Int} (h : Sh1 text 130) (h0 : 0 ≤ spoil) : Sh (textC text spoil) 280 := by
  have hl := h.2
  unfold textC
  split
  · have q := sh_cut (i := spoil / 6 % (text.length + 1)) h.1 (Int.emod_nonneg _ (by omega)) (by have := Int.emod_lt_of_pos (spoil / 6) (show (0 : Int) < text.length + 1 by omega); omega)
    exact ((q.1.app (sh_spoils (by omega) (by omega))).app q.2).mono (by decide)
  split
  · have p0 := Int.emod_nonneg (spoil / 6) (show (text.length : Int) ≠ 0 by omega)
    have p1 := Int.emod_lt_of_pos (spoil / 6) (show (0 : Int) < text.length by omega)
    have q := sh_cut (i := spoil / 6 % text.length) h.1 p0 (by omega)
    have q' := sh_cut (i := spoil / 6 % text.length + 1) h.1 (by omega) (by omega)
    exact (q.1.app q'.2).mono (by decide)
  · exact h.1.mono (by decide)
def textS (number place : Int) : PySem.Str :=
  textC (textB (textA number (mixI number place)) (tailS (mixI number (place + 100))) (tailS (mixI number (place + 200))) (nX (mixI number place) (mixI number place % 3 + 1).toNat)) (mixI number (place + 300))
theorem mix_nonneg (a b : Int) : 0 ≤ mixI a b := Int.emod_nonneg _ (by decide)
theorem sh_text (number place : Int) : Sh (textS number place) 280 := sh_textC (sh_textB (sh_textA (mix_nonneg _ _)) (sh_tail (mix_nonneg _ _)) (sh_tail (mix_nonneg _ _))) (mix_nonneg _ _)
end Mine
end
end
section
open PySem PySem.W PyProof.Rows PySem.Spec PySem.Calls
set_option maxRecDepth 100000
set_option linter.unusedVariables false
noncomputable section
namespace Mine
local macro_rules | `(tactic| walk_at "lk") => `(tactic| first | with_unfolding_all rfl | assumption | (refine (upd_ne (by decide +kernel)).trans ?_; walk_at "lk"))
local macro_rules | `(tactic| walk_at "leaf") => `(tactic| first | exact ev_str | exact ev_int | exact ev_none | exact ev_bool | exact ev_local (by assumption) (by walk_at "lk") (by kernel_rfl) (by kernel_rfl))
theorem k_tail (w : World) : nsIn (KF w) mainGlobals "_law_tail" = some (some (.ref 490)) := by kernel_rfl
theorem k_spoils (w : World) : ∃ t, nsIn (KF w) mainGlobals "_law_spoils" = some (some (.str spoilsS t)) := ⟨_, by with_unfolding_all rfl⟩
theorem k_abs (w : World) : nsIn (KF w) mainGlobals "abs" = some none := by kernel_rfl
theorem n_abs : ("abs" : PySem.Str) ≠ "__name__" := by decide
theorem b_abs : bootBuiltins ("abs" : PySem.Str) = some (.builtin "abs") := by with_unfolding_all rfl
theorem ev_strI {c : Cx} {ρ : Rho} (O : c.Ok) {p1 p3 : Pos} {e : Expr} {i : Int} (hl : c.en.kindOf "str" = some .globalImplicit) (he : EV c ρ e (some (di i))) (hs : starEach [e] c.en = (false, eval e c.en) :: starEach [] c.en) (h0 : 0 ≤ i) (h1 : i < 1000000000000000000000000000000) : EV c ρ (.Call (.Name "str" p1) [e] [] p3) (some (ds (tS i))) :=
  ev_call (ev_B O (k_str _) Boot.str n_str hl (by decide +kernel)) (evs_cons he evs_nil hs) kws_nil fun _ => (cb_str_int O (by
      have : (10 : Nat) ^ 30 ≤ 10 ^ 4300 := Nat.pow_le_pow_right (by decide) (by decide)
      have e : (10 : Nat) ^ 30 = 1000000000000000000000000000000 := by decide
      omega)).callable (fun _ q => by cases q)
theorem ex_keep {c : Cx} {ρ : Rho} {x : PySem.Str} {d : D} (h : ρ x = some d) : EX c ρ [] (.next (upd ρ x d)) := by rw [upd_same h]; exact ex_nil
theorem et_b {c : Cx} {ρ : Rho} {t : Expr} {b b' : Bool} (h : ET c ρ t (some b)) (e : b = b') : ET c ρ t (some b') := e ▸ h
theorem ex_elif {c : Cx} {ρ : Rho} {t : Expr} {body orelse : List Stmt} {pos : Pos} {b : Bool} {o : Out} (h : ET c ρ t (some b)) (h1 : b = true → EX c ρ body o) (h2 : b = false → EX c ρ orelse o) : EX c ρ [.If t body orelse pos] o := ex_one (ex_if h h1 h2)
set_option maxHeartbeats 8000000 in
theorem fn_text (w : World) {number place : Int} {B : Nat} (hB : B ≤ 1048576) (hn : Bits number B) (h0 : 0 ≤ place) (h1 : place ≤ 8) : FN w 2 false 497 [di number, di place] [] (some (ds (textS number place))) := by
  refine fn_of (f := 497) (ho := by with_unfolding_all rfl) (by kernel_rfl) (o := .ret (ds (textS number place))) (binds_ok [("number", di number), ("place", di place)] (fun news vs kvs s X a b => ?_) rfl) rfl (fun q => by cases q) (fun mean mg mb base A₀ outer L g₀ os O => ?_) rfl rfl rfl (by simp)
  · obtain ⟨v, v', rfl, a1, a2⟩ := dall2 a
    obtain rfl := kall0 b
    exact ⟨[("number", v), ("place", v')], BindsTo.of_eq rfl, rfl, a1, rfl, a2, trivial⟩
  · have mix : ∀ {e1 e2 : Expr} {p q : Pos} {ρ : Rho} {salt : Int} {c : Cx} (O : c.Ok) (hw : c.w = w) (hr : 0 < c.rk) (hl : c.en.kindOf "_law_mix" = some .globalImplicit) (he1 : EV c ρ e1 (some (di number))) (he : EV c ρ e2 (some (di salt))) (hs : starEach [e1, e2] c.en = (false, eval e1 c.en) :: starEach [e2] c.en) (hs2 : starEach [e2] c.en = (false, eval e2 c.en) :: starEach [] c.en) (h0 : 0 ≤ salt) (h1 : salt ≤ 400), EV c ρ (.Call (.Name "_law_mix" p) [e1, e2] [] q) (some (di (mixI number salt))) := fun {e1 e2 p q ρ salt c} O hw hr hl he1 he hs hs2 h0 h1 =>
      ev_call (ev_K O (k_lawmix _) hl (by decide +kernel)) (evs_cons he1 (evs_cons he evs_nil hs2) hs) kws_nil fun _ => callable_fn O (hw ▸ fn_mix w hB hn h0 h1) hr (fun q => by cases q) (by kernel_rfl)
    have hm := mix_nonneg number place
    have hN : (((mixI number place % 3 + 1).toNat : Nat) : Int) = mixI number place % 3 + 1 := by omega
    refine ex_consU (ex_assign O (mix O rfl (by show 0 < 2; decide) (by kernel_rfl) (by walk_at "leaf") (by walk_at "leaf") rfl rfl h0 (by omega)) (by kernel_rfl)) ?_
    refine ex_rows (N := (mixI number place % 3 + 1).toNat) O rfl (fun i => (rowsX number (mixI number place) i).map .str) (fun R i ρ => ρ "n" = some (di (nX (mixI number place) i)) ∧ ρ "row" = some (.val (.ref R)) ∧ ρ "number" = some (di number) ∧ ρ "place" = some (di place)) (by kernel_rfl) (by kernel_rfl) (by kernel_rfl) (FlatR.upd (fun y d q => ?_) flat_int) (by omega) rfl (by rw [List.length_map, rowsX_len]; omega) (fun R => ?_) (fun R => ⟨by with_unfolding_all rfl, by with_unfolding_all rfl, by with_unfolding_all rfl, by with_unfolding_all rfl⟩) (fun R i ρ₁ hi hP hf => ?_) (fun R ρ₁ hP hf => ?_) (fun R ρ₁ hP => hP.2.1) rfl rfl (fun _ => rfl)
    · unfold rho at q
      simp only [List.reverse_cons, List.reverse_nil, List.nil_append, List.cons_append, List.lookup_cons, List.lookup_nil] at q
      split at q
      · cases q; exact flat_int
      · split at q
        · cases q; exact flat_int
        · cases q
    · rw [hN]
      exact ev_binop (ev_binop (by walk_at "leaf") (by walk_at "leaf") (op_mod_int (by decide))) (by walk_at "leaf") op_add_int
    · have hnx := nX_nonneg hm i
      generalize hx : nX (mixI number place) i = x at hP hnx
      obtain ⟨p1, p2, p3, p4⟩ := hP
      have hx' : nX (mixI number place) (i + 1) = x / 3 / 16 := by show nX (mixI number place) i / 3 / 16 = _; rw [hx]
      have hf1 := (hf.upd (x := "k") (flat_int (i := i))).upd (x := "n") (flat_int (i := x / 3))
      have hf2 := hf1.upd (x := "kind") (flat_int (i := x / 3 % 16))
      have hf3 := hf2.upd (x := "n") (flat_int (i := x / 3 / 16))
      refine ⟨_, ⟨by rw [hx']; with_unfolding_all rfl, by walk_at "lk", by walk_at "lk", by walk_at "lk"⟩, hf3, ?_⟩
      refine exr_ex rfl (ex_assign O (ev_binop (by walk_at "leaf") (by walk_at "leaf") (op_fdiv_int (by decide) (by decide))) (by kernel_rfl)) hf1 ?_
      refine exr_ex rfl (ex_assign O (ev_binop (by walk_at "leaf") (by walk_at "leaf") (op_mod_int (by decide))) (by kernel_rfl)) hf2 ?_
      refine exr_ex rfl (ex_assign O (ev_binop (by walk_at "leaf") (by walk_at "leaf") (op_fdiv_int (by decide) (by decide))) (by kernel_rfl)) hf3 ?_
      have el : (rowsX number (mixI number place) (i + 1)).map Dat.str = (rowsX number (mixI number place) i).map .str ++ [.str (itemS number (x / 3))] := by rw [rowsX_succ, List.map_append]; unfold wX; rw [hx]; rfl
      have hl : ((rowsX number (mixI number place) i).map Dat.str).length ≤ 1000 := by rw [List.length_map, rowsX_len]; omega
      simp only [el]
      refine exr_if rfl (et_compare (by walk_at "leaf") (by walk_at "leaf") op_eq_int) (fun q0 => ?_) (fun q0 => ?_) exr_nil
      · have e : itemS number (x / 3) = PySem.Str.ofString "0" := by unfold itemS; rw [if_pos q0]
        rw [e]; exact exr_append O rfl (by walk_at "lk") (by kernel_rfl) ev_str rfl hl rfl rfl rfl rfl exr_nil
      refine exr_if rfl (et_compare (by walk_at "leaf") (by walk_at "leaf") op_eq_int) (fun q1 => ?_) (fun q1 => ?_) exr_nil
      · have e : itemS number (x / 3) = PySem.Str.ofString "0" ++ tS (x / 3 / 16 % 10) := by unfold itemS; rw [if_neg (ne_true_of_eq_false q0), if_pos q1]
        have l9 := (sh_tS (i := x / 3 / 16 % 10) (by omega) (by omega)).len
        have l0 : (PySem.Str.ofString "0").length = 1 := by decide
        rw [e]; exact exr_append O rfl (by walk_at "lk") (by kernel_rfl) (ev_binop ev_str (ev_strI O (by kernel_rfl) (ev_binop (by walk_at "leaf") (by walk_at "leaf") (op_mod_int (by decide))) rfl (by omega) (by omega)) (op_add_str (by omega))) rfl hl rfl rfl rfl rfl exr_nil
      refine exr_if rfl (et_compare (by walk_at "leaf") (by walk_at "leaf") op_eq_int) (fun q2 => ?_) (fun q2 => ?_) exr_nil
      · have e : itemS number (x / 3) = tS (absI number % 1000000000000000000000000000000) := by unfold itemS; rw [if_neg (ne_true_of_eq_false q0), if_neg (ne_true_of_eq_false q1), if_pos q2]
        rw [e]; exact exr_append O rfl (by walk_at "lk") (by kernel_rfl) (ev_strI O (by kernel_rfl) (ev_binop (ev_call (ev_B O (k_abs _) b_abs n_abs (by kernel_rfl) (by kernel_rfl)) (evs_cons (by walk_at "leaf") evs_nil) kws_nil fun _ => cb_abs.callable (fun _ q => by cases q)) (ev_binop (d := some (di 1000000000000000000000000000000)) (by walk_at "leaf") (by walk_at "leaf") (op_pow_int (a := 10) (b := 30) (k := 30) rfl (by decide) (by decide) (by decide) (by decide))) (op_mod_int (by decide))) rfl (Int.emod_nonneg _ (by decide)) (Int.emod_lt_of_pos _ (by decide))) rfl hl rfl rfl rfl rfl exr_nil
      · have e : itemS number (x / 3) = tS (x / 3 / 16 % 20) := by unfold itemS; rw [if_neg (ne_true_of_eq_false q0), if_neg (ne_true_of_eq_false q1), if_neg (ne_true_of_eq_false q2)]
        rw [e]; exact exr_append O rfl (by walk_at "lk") (by kernel_rfl) (ev_strI O (by kernel_rfl) (ev_binop (by walk_at "leaf") (by walk_at "leaf") (op_mod_int (by decide))) rfl (by omega) (by omega)) rfl hl rfl rfl rfl rfl exr_nil
    · obtain ⟨p1, p2, p3, p4⟩ := hP
      have hA := sh_textA (number := number) hm
      have h1c := sh_tail (mix_nonneg number (place + 100))
      have h2c := sh_tail (mix_nonneg number (place + 200))
      have tail : ∀ {e : Expr} {p q : Pos} {ρ : Rho} {n : Int} {c : Cx} (O : c.Ok) (hw : c.w = w) (hr : 1 < c.rk) (hl : c.en.kindOf "_law_tail" = some .globalImplicit) (he : EV c ρ e (some (di n))) (hs : starEach [e] c.en = (false, eval e c.en) :: starEach [] c.en) (h0 : 0 ≤ n), EV c ρ (.Call (.Name "_law_tail" p) [e] [] q) (some (ds (tailS n))) := fun {e p q ρ n c} O hw hr hl he hs h0 =>
        ev_call (ev_K O (k_tail _) hl (by decide +kernel)) (evs_cons he evs_nil hs) kws_nil fun _ => callable_fn O (hw ▸ fn_tail w h0) hr (fun q => by cases q) (by kernel_rfl)
      have hs := sum_sh fun x hx => (rowsX_sh (number := number) hm (mixI number place % 3 + 1).toNat x hx).1
      rw [rowsX_len] at hs
      have ld : (PySem.Str.ofString ".").length = 1 := by decide
      generalize hx : nX (mixI number place) (mixI number place % 3 + 1).toNat = x at p1
      have hx0 : 0 ≤ x := by rw [← hx]; exact nX_nonneg hm _
      have hB := sh_textB (n := x) hA h1c h2c
      have etx : textS number place = textC (textB (textA number (mixI number place)) (tailS (mixI number (place + 100))) (tailS (mixI number (place + 200))) x) (mixI number (place + 300)) := by unfold textS; rw [hx]
      rw [etx]
      refine ex_consU (d := ds (textA number (mixI number place))) (ex_assign O (ev_method ev_str (gm_join_list (l := rowsX number (mixI number place) (mixI number place % 3 + 1).toNat) (by rw [rowsX_len, ld]; omega)) (evs_cons (by walk_at "leaf") evs_nil) kws_nil) (by kernel_rfl)) ?_
      refine ex_consU (ex_assign O (tail O rfl (by show 1 < 2; decide) (by kernel_rfl) (mix O rfl (by show 0 < 2; decide) (by kernel_rfl) (by walk_at "leaf") (ev_binop (by walk_at "leaf") (by walk_at "leaf") op_add_int) rfl rfl (by omega) (by omega)) rfl (mix_nonneg _ _)) (by kernel_rfl)) ?_
      refine ex_consU (ex_assign O (tail O rfl (by show 1 < 2; decide) (by kernel_rfl) (mix O rfl (by show 0 < 2; decide) (by kernel_rfl) (by walk_at "leaf") (ev_binop (by walk_at "leaf") (by walk_at "leaf") op_add_int) rfl rfl (by omega) (by omega)) rfl (mix_nonneg _ _)) (by kernel_rfl)) ?_
      refine ex_consU (ex_assign O (ev_binop (by walk_at "leaf") (by walk_at "leaf") (op_mod_int (by decide))) (by kernel_rfl)) ?_
      generalize tailS (mixI number (place + 100)) = one at h1c hB
      generalize tailS (mixI number (place + 200)) = other at h2c hB
      generalize textA number (mixI number place) = text at hA hB
      have la := hA.1.len
      have lo := h1c.len
      have lt := h2c.len
      have m1 : (PySem.Str.ofString "-").length = 1 := by decide
      have m2 : (PySem.Str.ofString "+").length = 1 := by decide
      have m3 : (PySem.Str.ofString "-+").length = 2 := by decide
      refine ex_consU (x := "text") (d := ds (textB text one other x)) (ex_if (et_compare (by walk_at "leaf") (by walk_at "leaf") op_eq_int) (fun q2 => ?_) fun q2 => ex_elif (et_compare (by walk_at "leaf") (by walk_at "leaf") op_eq_int) (fun q3 => ?_) fun q3 => ex_elif (et_compare (by walk_at "leaf") (by walk_at "leaf") op_eq_int) (fun q4 => ?_) fun q4 => ex_elif (et_compare (by walk_at "leaf") (by walk_at "leaf") op_eq_int) (fun q5 => ?_) fun q5 => ex_elif (et_compare (by walk_at "leaf") (by walk_at "leaf") op_eq_int) (fun q6 => ?_) fun q6 => ex_elif (et_compare (by walk_at "leaf") (by walk_at "leaf") op_eq_int) (fun q7 => ?_) fun q7 => ?_) ?_
      · have e : textB text one other x = text ++ PySem.Str.ofString "-" := by unfold textB; rw [if_pos q2]
        rw [e]; exact ex_one (ex_assign O (ev_binop (by walk_at "leaf") (by walk_at "leaf") (op_add_str (by omega))) (by kernel_rfl))
      · have e : textB text one other x = text ++ PySem.Str.ofString "+" := by unfold textB; rw [if_neg (ne_true_of_eq_false q2), if_pos q3]
        rw [e]; exact ex_one (ex_assign O (ev_binop (by walk_at "leaf") (by walk_at "leaf") (op_add_str (by omega))) (by kernel_rfl))
      · have e : textB text one other x = text ++ PySem.Str.ofString "-" ++ one := by unfold textB; rw [if_neg (ne_true_of_eq_false q2), if_neg (ne_true_of_eq_false q3), if_pos q4]
        rw [e]; exact ex_one (ex_assign O (ev_binop (ev_binop (by walk_at "leaf") (by walk_at "leaf") (op_add_str (by omega))) (by walk_at "leaf") (op_add_str (by simp only [PySem.strLen_append]; omega))) (by kernel_rfl))
      · have e : textB text one other x = text ++ PySem.Str.ofString "+" ++ one := by unfold textB; rw [if_neg (ne_true_of_eq_false q2), if_neg (ne_true_of_eq_false q3), if_neg (ne_true_of_eq_false q4), if_pos q5]
        rw [e]; exact ex_one (ex_assign O (ev_binop (ev_binop (by walk_at "leaf") (by walk_at "leaf") (op_add_str (by omega))) (by walk_at "leaf") (op_add_str (by simp only [PySem.strLen_append]; omega))) (by kernel_rfl))
      · have e : textB text one other x = text ++ PySem.Str.ofString "-" ++ one ++ PySem.Str.ofString "+" ++ other := by unfold textB; rw [if_neg (ne_true_of_eq_false q2), if_neg (ne_true_of_eq_false q3), if_neg (ne_true_of_eq_false q4), if_neg (ne_true_of_eq_false q5), if_pos q6]
        rw [e]; exact ex_one (ex_assign O (ev_binop (ev_binop (ev_binop (ev_binop (by walk_at "leaf") (by walk_at "leaf") (op_add_str (by omega))) (by walk_at "leaf") (op_add_str (by simp only [PySem.strLen_append]; omega))) (by walk_at "leaf") (op_add_str (by simp only [PySem.strLen_append]; omega))) (by walk_at "leaf") (op_add_str (by simp only [PySem.strLen_append]; omega))) (by kernel_rfl))
      · have e : textB text one other x = text ++ (if (x / 8 % 2 == 0) = true then PySem.Str.ofString "-+" ++ other else PySem.Str.ofString "-" ++ one ++ PySem.Str.ofString "+") := by unfold textB; rw [if_neg (ne_true_of_eq_false q2), if_neg (ne_true_of_eq_false q3), if_neg (ne_true_of_eq_false q4), if_neg (ne_true_of_eq_false q5), if_neg (ne_true_of_eq_false q6), if_pos q7]
        rw [e]
        refine ex_one (ex_assign O (ev_binop (by walk_at "leaf") (ev_ifexp (b := x / 8 % 2 == 0) (et_compare (ev_binop (ev_binop (by walk_at "leaf") (by walk_at "leaf") (op_fdiv_int (by decide) (by decide))) (by walk_at "leaf") (op_mod_int (by decide))) (by walk_at "leaf") op_eq_int) (fun q => ?_) (fun q => ?_)) (op_add_str ?_)) (by kernel_rfl))
        · rw [if_pos q]; exact ev_binop ev_str (by walk_at "leaf") (op_add_str (by omega))
        · rw [if_neg (ne_true_of_eq_false q)]; exact ev_binop (ev_binop ev_str (by walk_at "leaf") (op_add_str (by omega))) ev_str (op_add_str (by simp only [PySem.strLen_append]; omega))
        · split <;> (simp only [PySem.strLen_append]; omega)
      · have e : textB text one other x = text := by unfold textB; rw [if_neg (ne_true_of_eq_false q2), if_neg (ne_true_of_eq_false q3), if_neg (ne_true_of_eq_false q4), if_neg (ne_true_of_eq_false q5), if_neg (ne_true_of_eq_false q6), if_neg (ne_true_of_eq_false q7)]
        rw [e]; exact ex_keep (by walk_at "lk")
      have lB := hB.1.len
      have lB1 := hB.2
      generalize textB text one other x = tb at hB lB lB1
      refine ex_consU (ex_assign O (mix O rfl (by show 0 < 2; decide) (by kernel_rfl) (by walk_at "leaf") (ev_binop (by walk_at "leaf") (by walk_at "leaf") op_add_int) rfl rfl (by omega) (by omega)) (by kernel_rfl)) ?_
      have hsp := mix_nonneg number (place + 300)
      generalize mixI number (place + 300) = sp at hsp
      refine ex_branch (fun ρ' => ρ' "text" = some (ds (textC tb sp))) ?_ fun ρ' hp => ex_ret (ex_return (by walk_at "leaf"))
      cases e0 : (sp % 6 == 0) with
      | true =>
        have p0 := Int.emod_nonneg (sp / 6) (show (tb.length : Int) + 1 ≠ 0 by omega)
        have p1 := Int.emod_lt_of_pos (sp / 6) (show (0 : Int) < (tb.length : Int) + 1 by omega)
        have q := sh_cut (i := sp / 6 % (tb.length + 1)) hB.1 p0 (by omega)
        have l1 := q.1.len
        have l2 := q.2.len
        have l3 := (sh_spoils (i := sp / 50 % 8) (by omega) (by omega)).len
        have e : textC tb sp = Txt.slice tb none (some (sp / 6 % (tb.length + 1))) ++ Txt.item spoilsS (sp / 50 % 8) ++ Txt.slice tb (some (sp / 6 % (tb.length + 1))) none := by unfold textC; rw [if_pos e0]
        rw [e]
        obtain ⟨tk, ek⟩ := k_spoils w
        have l8 : spoilsS.length = 8 := by decide +kernel
        refine ⟨_, ex_if (b := true) (et_b (et_compare (ev_binop (by walk_at "leaf") (by walk_at "leaf") (op_mod_int (by decide))) (by walk_at "leaf") op_eq_int) e0) (fun _ => ex_consU (ex_assign O (ev_binop (ev_binop (by walk_at "leaf") (by walk_at "leaf") (op_fdiv_int (by decide) (by decide))) (ev_binop (ev_call (ev_B O (k_len _) Boot.len n_len (by kernel_rfl) (by kernel_rfl)) (evs_cons (by walk_at "leaf") evs_nil) kws_nil fun _ => (cb_len_str (x := tb) (by omega)).callable (fun _ q => by cases q)) ev_int op_add_int) (op_mod_int (by omega))) (by kernel_rfl)) (ex_one (ex_assign O (ev_binop (ev_binop (ev_slice (a := none) (b := some (sp / 6 % (tb.length + 1))) (by walk_at "leaf") trivial (show PV _ _ (some _) (some _) from by walk_at "leaf") (by omega) (fun _ _ => rfl) (fun _ _ => rfl)) (ev_sub (ev_Kstr O ek (by kernel_rfl) (by kernel_rfl)) (ev_binop (ev_binop (by walk_at "leaf") (by walk_at "leaf") (op_fdiv_int (by decide) (by decide))) (by walk_at "leaf") (op_mod_int (by decide))) (sub_str (by unfold fitsSsize; simp; omega) (by rw [l8]; omega) (by rw [l8]; omega) (fun _ _ => rfl) (fun _ _ => rfl))) (op_add_str (by omega))) (ev_slice (a := some (sp / 6 % (tb.length + 1))) (b := none) (by walk_at "leaf") (show PV _ _ (some _) (some _) from by walk_at "leaf") trivial (by omega) (fun _ _ => rfl) (fun _ _ => rfl)) (op_add_str (by simp only [PySem.strLen_append]; omega))) (by kernel_rfl)))) (fun q => by cases q), by with_unfolding_all rfl⟩
      | false =>
        cases e1 : (sp % 6 == 1) with
        | true =>
          have p0 := Int.emod_nonneg (sp / 6) (show (tb.length : Int) ≠ 0 by omega)
          have p1 := Int.emod_lt_of_pos (sp / 6) (show (0 : Int) < (tb.length : Int) by omega)
          have l1 := (sh_cut (i := sp / 6 % tb.length) hB.1 p0 (by omega)).1.len
          have l2 := (sh_cut (i := sp / 6 % tb.length + 1) hB.1 (by omega) (by omega)).2.len
          have e : textC tb sp = Txt.slice tb none (some (sp / 6 % tb.length)) ++ Txt.slice tb (some (sp / 6 % tb.length + 1)) none := by unfold textC; rw [if_neg (ne_true_of_eq_false e0), if_pos e1]
          rw [e]
          refine ⟨_, ex_if (b := false) (et_b (et_compare (ev_binop (by walk_at "leaf") (by walk_at "leaf") (op_mod_int (by decide))) (by walk_at "leaf") op_eq_int) e0) (fun q => by cases q) (fun _ => ex_elif (b := true) (et_b (et_compare (ev_binop (by walk_at "leaf") (by walk_at "leaf") (op_mod_int (by decide))) (by walk_at "leaf") op_eq_int) e1) (fun _ => ex_consU (ex_assign O (ev_binop (ev_binop (by walk_at "leaf") (by walk_at "leaf") (op_fdiv_int (by decide) (by decide))) (ev_call (ev_B O (k_len _) Boot.len n_len (by kernel_rfl) (by kernel_rfl)) (evs_cons (by walk_at "leaf") evs_nil) kws_nil fun _ => (cb_len_str (x := tb) (by omega)).callable (fun _ q => by cases q)) (op_mod_int (by omega))) (by kernel_rfl)) (ex_one (ex_assign O (ev_binop (ev_slice (a := none) (b := some (sp / 6 % tb.length)) (by walk_at "leaf") trivial (show PV _ _ (some _) (some _) from by walk_at "leaf") (by omega) (fun _ _ => rfl) (fun _ _ => rfl)) (ev_slice (a := some (sp / 6 % tb.length + 1)) (b := none) (by walk_at "leaf") (show PV _ _ (some _) (some _) from ev_binop (by walk_at "leaf") ev_int op_add_int) trivial (by omega) (fun _ _ => rfl) (fun _ _ => rfl)) (op_add_str (by omega))) (by kernel_rfl)))) (fun q => by cases q)), by with_unfolding_all rfl⟩
        | false =>
          have e : textC tb sp = tb := by unfold textC; rw [if_neg (ne_true_of_eq_false e0), if_neg (ne_true_of_eq_false e1)]
          rw [e]
          refine ⟨_, ex_if (b := false) (et_b (et_compare (ev_binop (by walk_at "leaf") (by walk_at "leaf") (op_mod_int (by decide))) (by walk_at "leaf") op_eq_int) e0) (fun q => by cases q) (fun _ => ex_elif (b := false) (et_b (et_compare (ev_binop (by walk_at "leaf") (by walk_at "leaf") (op_mod_int (by decide))) (by walk_at "leaf") op_eq_int) e1) (fun q => by cases q) (fun _ => ex_nil)), by walk_at "lk"⟩
end Mine
end
end
section
open PySem PySem.W PyProof.Rows PySem.Spec PySem.Calls
set_option maxRecDepth 100000
set_option linter.unusedVariables false
noncomputable section
namespace Mine
/-! a list comprehension over enumerate(list) -/
section
variable {prog : Program} {w : World} {A : Around} {R : Result → Shared → Prop} {s : Shared}
theorem compLoop_let {elt target iter : Expr} {scope : Scope} {pos : Pos} {it acc : Value} {env : Env} (I : Nat → Shared → Prop)
    (turn : ∀ n s, I n s → wpAny (model prog w) A (pyNext it) (fun r s₁ => match r with
      | none => R (.ok .next) s₁
      | some v => wpAny (model prog w) A (letOwnedTupleGo target it v) (fun _ s₁ => wpAny (model prog w) A (assign target env v) (fun _ s₂ => wpAny (model prog w) A (eval elt env) (fun x s₃ =>
          wpAny (model prog w) A (call (.builtin "list.append") [acc, x]) (fun _ s₄ => ∃ m, m < n ∧ I m s₄) (notedBy (model prog w) A env fun e s' => R (.error e) s') s₃)
          (notedBy (model prog w) A env fun e s' => R (.error e) s') s₂) (notedBy (model prog w) A env fun e s' => R (.error e) s') s₁) (notedBy (model prog w) A env fun e s' => R (.error e) s') s₁) (notedBy (model prog w) A env fun e s' => R (.error e) s') s)
    (n : Nat) (h : I n s) :
    codeAny (model prog w) A (.compLoop (.ListComp elt [⟨target, iter, [], 0⟩] scope pos) 0 it acc env) R s := by
  refine codeAny_loop rfl I (fun n s hI => ?_) n h
  show wpAny _ _ ((compTurn (.ListComp elt [⟨target, iter, [], 0⟩] scope pos) 0 it acc env).onRaise (fun x => do noteFrame x env; theTreesLotGoes x)) _ _ s
  refine wpAny_noted ?_
  rw [compTurn_list1]
  refine wpAny_bind (wpAny_standAt (wpAny_bind (wpAny_mono (turn n s hI) (fun r s₁ h₁ => ?_) fun _ _ h' => h')))
  cases r with
  | none => exact wpAny_pure h₁
  | some v =>
    refine wpAny_bind (wpAny_mono h₁ (fun _ s₁ h₁ => ?_) fun _ _ h' => h')
    refine wpAny_bind (wpAny_mono h₁ (fun _ s₂ h₂ => ?_) fun _ _ h' => h')
    exact wpAny_bind (wpAny_bind (wpAny_mono h₂ (fun x s₄ h₄ => wpAny_bind (wpAny_mono h₄ (fun _ s₅ h₅ => wpAny_pure (wpAny_pure ⟨rfl, h₅⟩)) fun _ _ h' => h')) fun _ _ h' => h'))
end
def two (xi : PySem.Str) (i : Int) (xv : PySem.Str) (d : Dat) : Rho := fun y => if y = xv then some (.dat d) else if y = xi then some (di i) else none
def ItemE (c : Cx) (scope : Scope) (xi xv : PySem.Str) (elt : Expr) (i : Nat) (d y : Dat) : Prop :=
  ∀ C m, (inC c (compEnvC scope [] C c.env) m).Ok → EV (inC c (compEnvC scope [] C c.env) m) (two xi i xv d) elt (some (.dat y)) ∧ flatD y = true
section
variable {c : Cx} {m : PySem.Str → Option Value} {news news' : Led} {s s' : Shared} {ρ ρ' : Rho}
theorem comp_enum (O : c.Ok) (hcm : c.cmp = none) {xi xv : PySem.Str} {pi pv pt pos : Pos} {kt : Nat} {iter elt : Expr} {scope : Scope} {e it ax : Addr} {vs : List Value} {na : Nat} {l : List Dat} (F : Nat → Dat) {base : Led}
    (hl : (ax, ({ cls := .type "list", data := .seq vs.toArray na } : Obj)) ∈ base) (hvs : DatAll base vs l) (hfl : ∀ d ∈ l, flatD d = true) (hsz : l.length ≤ 1000) (hE : ∀ p ∈ base, p.1 ≠ e) (hI : ∀ p ∈ base, p.1 ≠ it) (hei : e ≠ it) (heL : e ≠ c.L) (hIL : it ≠ c.L) (hge : c.g₀.get? e = none) (hgi : c.g₀.get? it = none)
    (hcell : ∀ y ∈ scope.names, y.2 ≠ .cell) (hkind : scope.kind = .function) (hxi : scope.names.lookup xi = some .local) (hxv : scope.names.lookup xv = some .local) (hIs : ∀ i d, l[i]? = some d → ItemE c scope xi xv elt i d (F i)) (S : St c m base s) (hen : IsEnum s.heap e it 0 .none) (hit : s.heap.IsListIter it ax 0)
    {RR : Value → Addr → Result → Shared → Prop} {E : Value → Shared → Prop}
    (hRR : ∀ D C s' m', St c m ((D, LCg.lst (m' : List Value)) :: base) s' → DatAll [] m' ((List.range l.length).map F) → (∃ mc, s'.heap.Ns C mc) → c.g₀.get? C = none → C ≠ c.L → D ≠ C → (∀ p ∈ base, p.1 ≠ C) → RR (.ref D) C (.ok .next) s') :
    wpAny c.M c.A (newList []) (fun acc s₃ => wpAny c.M c.A (newFunctionEnv scope c.env.globals [] [] c.env.qual none .none (some c.env)) (fun cenv s₄ =>
      codeAny c.M c.A (.compStart (.ListComp elt [⟨.Tuple [.Name xi pi, .Name xv pv] kt pt, iter, [], 0⟩] scope pos) 0 (.ref e) acc { cenv with scope := relabel scope c.env }) (RR acc cenv.locals) s₄) E s₃) E s := by
  have W := WalksT.enumerate (prog := P) (w := c.w) (A := c.A) O.hh e it ax hei (hE _ hl) (hI _ hl) vs.toArray
  obtain ⟨h₀, G⟩ := S.gr
  have GF : Fr h₀ c.L s.heap m := by have := G.F; rwa [Cx.fm_eq hcm] at this
  refine wpAny_newObj_type (wpAny_newFunctionEnv hcell (by intro y hy; simp at hy) (fun h₁ hns₁ hsb₁ => ?_) hkind)
  dsimp only at hns₁ hsb₁ ⊢
  generalize hH2 : s.heap.push { cls := .type "list", dict := none, data := .seq ([] : List Value).toArray } = H2 at hns₁ hsb₁ ⊢
  have hC : H2.objs.size = s.heap.objs.size + 1 := by rw [← hH2, Heap.size_push]
  have hDC : s.heap.objs.size ≠ H2.objs.size := by rw [hC]; exact Nat.ne_of_lt (Nat.lt_succ_self _)
  have below : ∀ b, b < s.heap.objs.size → b ≠ H2.objs.size ∧ b ≠ s.heap.objs.size := fun b hb => ⟨by rw [hC]; exact Nat.ne_of_lt (Nat.lt_succ_of_lt hb), Nat.ne_of_lt hb⟩
  have old : ∀ b o, s.heap.get? b = some o → h₁.get? b = some o := fun b o e => hsb₁.extBut b o (below b (Heap.lt_size e)).1 (Heap.get?_push_of_some _ (hH2 ▸ Heap.get?_push_of_some _ e))
  have hacc : h₁.get? s.heap.objs.size = some (LCg.lst []) := hsb₁.extBut _ _ hDC (Heap.get?_push_of_some _ (hH2 ▸ Heap.get?_push_size _ rfl))
  have fresh : ∀ a, s.heap.objs.size ≤ a → h₀.get? a = none := fun a ha => by
    cases e : h₀.get? a with
    | none => rfl
    | some o' => exact absurd (Heap.lt_size (GF.keep a o' e)) (Nat.not_lt.mpr ha)
  have hD0 := fresh s.heap.objs.size (Nat.le_refl _)
  have hC0 := fresh H2.objs.size (by rw [hC]; exact Nat.le_succ _)
  have hDg := G.fresh_g hD0
  have hCg := G.fresh_g hC0
  have hLlt : c.L < s.heap.objs.size := GF.ns.lt
  have hDL : s.heap.objs.size ≠ c.L := Ne.symm (below c.L hLlt).2
  have hCL : H2.objs.size ≠ c.L := Ne.symm (below c.L hLlt).1
  have hCe : e ≠ H2.objs.size := (below e (Heap.lt_size hen)).1
  have hDe : e ≠ s.heap.objs.size := (below e (Heap.lt_size hen)).2
  have hCi : it ≠ H2.objs.size := (below it (by obtain ⟨o, a, _⟩ := hit; exact Heap.lt_size a)).1
  have hDi : it ≠ s.heap.objs.size := (below it (by obtain ⟨o, a, _⟩ := hit; exact Heap.lt_size a)).2
  have bC : ∀ p ∈ base, p.1 ≠ H2.objs.size := fun p hp => (below _ (Heap.lt_size (G.N p hp).1)).1
  have bD : ∀ p ∈ base, p.1 ≠ s.heap.objs.size := fun p hp => (below _ (Heap.lt_size (G.N p hp).1)).2
  have okC : ∀ mm, (inC c (compEnvC scope [] H2.objs.size c.env) mm).Ok := fun mm => inC_ok O (by simp [compEnvC, relabel, hkind]) (by rw [← Cx.en_eq hcm]; exact O.eg) (by rw [← Cx.en_eq hcm]; exact O.eb)
  generalize hDD : s.heap.objs.size = D at *
  generalize hCC : H2.objs.size = C at *
  have hlen : vs.toArray.size = l.length := by rw [List.size_toArray, lenOf hvs]
  have loop : ∀ s₃ : Shared, s₃ = { s with heap := h₁, toks := s.toks + ([] : List (PySem.Str × Value)).length } →
      codeAny c.M c.A (.compLoop (.ListComp elt [⟨.Tuple [.Name xi pi, .Name xv pv] kt pt, iter, [], 0⟩] scope pos) 0 (.ref e) (.ref D) (compEnvC scope [] C c.env)) (RR (.ref D) C) s₃ := by
    rintro s₃ rfl
    refine compLoop_let
      (fun k s' => ∃ i ys, k = l.length + 1 - i ∧ i ≤ l.length ∧ ((∃ old, IsEnum s'.heap e it i old) ∧ s'.heap.IsListIter it ax i ∧ s'.heap.IsList ax vs.toArray) ∧ St c m ((D, LCg.lst ys) :: base) s' ∧ (∃ mc, s'.heap.Ns C mc) ∧ DatAll [] ys ((List.range i).map F)) ?_ (l.length + 1)
      ⟨0, [], rfl, Nat.zero_le _, ⟨⟨_, old _ _ hen⟩, hit.at fun o q => old _ _ q, (G.N.isList hl).at fun o q => old _ _ q⟩, ?_, ⟨_, hns₁⟩, .nil⟩
    · rintro k s' ⟨i, ys, rfl, hi, hst', S', ⟨mc, hns'⟩, hys⟩
      obtain ⟨h₀', G'⟩ := S'.gr
      have GF' : Fr h₀' c.L s'.heap m := by have := G'.F; rwa [Cx.fm_eq hcm] at this
      have he0' : h₀'.get? e = none := G'.turn.none_ _ hge
      have hi0' : h₀'.get? it = none := G'.turn.none_ _ hgi
      have hC0' : h₀'.get? C = none := G'.turn.none_ _ hCg
      have two_ : ∀ {b : Addr}, b ≠ e → b ≠ it → b ∉ [e, it] := fun h1 h2 hb => by
        rcases List.mem_cons.mp hb with q | q
        · exact h1 q
        · exact h2 (List.mem_singleton.mp q)
      by_cases hlt : i < l.length
      · refine W.item i _ _ _ (by rw [hlen]; exact hlt) hst' fun T vals h₂ tk₂ hPv hTs hTup hmid hk₂ => ?_
        obtain ⟨tk, x, hx, rfl⟩ := hPv
        refine W.go _ _ _ i T _ _ _ hmid fun h₃ hst₃ hk₃ => ?_
        have hT3 : h₃.IsTuple T #[.int i tk, x] := hTup.at fun o q => hk₃ _ o (W.apart _ _ _ hmid) q
        refine wpAny_assign_Tuple O.hh hT3 rfl rfl fun h₄ hx₄ => ?_
        replace hx₄ : Heap.ExtBut h₃.objs.size h₃ h₄ := hx₄
        have k4 : ∀ b o, h₃.get? b = some o → h₄.get? b = some o := fun b o q => hx₄ b o (Nat.ne_of_lt (Heap.lt_size q)) q
        have k24 : ∀ b o, b ≠ e → b ≠ it → s'.heap.get? b = some o → h₄.get? b = some o := fun b o h1 h2 q => k4 b o (hk₃ b o (two_ h1 h2) (hk₂ b o (two_ h1 h2) q))
        show wpAny _ _ (do holding [x] (assign (.Name xi pi) (compEnvC scope [] C c.env) (.int i tk)); do holding [] (assign (.Name xv pv) (compEnvC scope [] C c.env) x); pure ()) _ _ _
        refine wpAny_bind (wpAny_holding (wpAny_assign_Name (wpAny_storeName_local (lookup_relabel_local hxi) (hns'.at' fun o q => k24 _ o (Ne.symm hCe) (Ne.symm hCi) q) (fun h₅ hn₅ hs₅ => ?_) (by simp [compEnvC, relabel, hkind]))))
        refine wpAny_bind (wpAny_holding (wpAny_assign_Name (wpAny_storeName_local (lookup_relabel_local hxv) hn₅ (fun h₆ hn₆ hs₆ => wpAny_pure ?_) (by simp [compEnvC, relabel, hkind]))))
        replace hs₅ : Heap.SameBut C h₄ h₅ := hs₅
        replace hs₆ : Heap.SameBut C h₅ h₆ := hs₆
        have k6 : ∀ b o, b ≠ C → h₃.get? b = some o → h₆.get? b = some o := fun b o h q => hs₆.extBut b o h (hs₅.extBut b o h (k4 b o q))
        have kk : ∀ b o, b ≠ e → b ≠ it → b ≠ C → s'.heap.get? b = some o → h₆.get? b = some o := fun b o h1 h2 h3 q => hs₆.extBut b o h3 (hs₅.extBut b o h3 (k24 b o h1 h2 q))
        have fpC : ∀ b ∈ [e, it, ax], b ≠ C := fun b hb => by
          rcases List.mem_cons.mp hb with rfl | hb
          · exact hCe
          · rcases List.mem_cons.mp hb with rfl | hb
            · exact hCi
            · obtain rfl := List.mem_singleton.mp hb; exact bC _ hl
        have hst₆ := W.frame _ _ h₆ hst₃ fun b hb o q => k6 b o (fpC b hb) q
        obtain ⟨oC, heC, hoC⟩ := LCg.ns_obj hn₆
        obtain ⟨oE, heE⟩ : ∃ o, h₆.get? e = some o := by obtain ⟨⟨old, q⟩, _⟩ := hst₆; exact ⟨_, q⟩
        obtain ⟨oI, heI⟩ : ∃ o, h₆.get? it = some o := by obtain ⟨_, ⟨o, q, _⟩, _⟩ := hst₆; exact ⟨o, q⟩
        have F₆ : Fr h₀' c.L h₆ m := ⟨GF'.ns.at' fun o q => kk _ o (Ne.symm heL) (Ne.symm hIL) (Ne.symm hCL) q, fun b o q => kk b o (fun z => by rw [z, he0'] at q; cases q) (fun z => by rw [z, hi0'] at q; cases q) (fun z => by rw [z, hC0'] at q; cases q) (GF'.keep b o q), GF'.above⟩
        have N₆ : News h₀' c.L h₆ ((e, oE) :: (it, oI) :: (C, oC) :: (D, LCg.lst ys) :: base) := fun p hp => by
          rcases List.mem_cons.mp hp with rfl | hp
          · exact ⟨heE, heL, he0'⟩
          rcases List.mem_cons.mp hp with rfl | hp
          · exact ⟨heI, hIL, hi0'⟩
          rcases List.mem_cons.mp hp with rfl | hp
          · exact ⟨heC, hCL, hC0'⟩
          have z := G'.N p hp
          refine ⟨kk _ _ ?_ ?_ ?_ z.1, z.2⟩
          · rcases List.mem_cons.mp hp with rfl | hp
            · exact Ne.symm hDe
            · exact hE p hp
          · rcases List.mem_cons.mp hp with rfl | hp
            · exact Ne.symm hDi
            · exact hI p hp
          · rcases List.mem_cons.mp hp with rfl | hp
            · exact hDC
            · exact bC p hp
        have subB : base ⊆ (e, oE) :: (it, oI) :: (C, oC) :: (D, LCg.lst ys) :: base := fun p hp => List.mem_cons_of_mem _ (List.mem_cons_of_mem _ (List.mem_cons_of_mem _ (List.mem_cons_of_mem _ hp)))
        have hd : l[i]? = some l[i] := List.getElem?_eq_getElem hlt
        obtain ⟨v', a1, hvd⟩ := DatAll.at hvs hd
        rw [List.getElem?_toArray, a1] at hx
        cases hx
        have S₆ : ∀ n, St (inC c (compEnvC scope [] C c.env) m) (fun z => if z = xv then some x else if z = xi then some (.int i tk) else mc z) ((e, oE) :: (it, oI) :: (C, oC) :: (D, LCg.lst ys) :: base) { s' with heap := h₆, toks := n } := fun n =>
          ⟨S'.os, S'.ga, h₀', ⟨G'.fixd, G'.turn, G'.B, F₆, G'.X, G'.T, G'.D, G'.tb⟩, N₆, ⟨oC, List.mem_cons_of_mem _ (List.mem_cons_of_mem _ (List.mem_cons_self ..)), hoC⟩⟩
        have hρ₆ : Loc (two xi i xv l[i]) (fun z => if z = xv then some x else if z = xi then some (.int i tk) else mc z) ((e, oE) :: (it, oI) :: (C, oC) :: (D, LCg.lst ys) :: base) := fun y d hy => by
          unfold two at hy
          by_cases h1 : y = xv
          · rw [if_pos h1] at hy; cases hy; exact ⟨x, if_pos h1, .dat (hvd.mono subB)⟩
          · rw [if_neg h1] at hy
            by_cases h2 : y = xi
            · rw [if_pos h2] at hy; cases hy; exact ⟨.int i tk, (if_neg h1).trans (if_pos h2), .dat (.int _ _)⟩
            · rw [if_neg h2] at hy; cases hy
        have hit' := hIs i l[i] hd C m (okC m)
        refine hit'.1 _ _ _ _ _ (S₆ _) hρ₆ fun v₇ n₇ s₇ hn₇ S₇ hv₇ => ?_
        obtain ⟨h₀'', G₇⟩ := S₇.gr
        have mem : ∀ p ∈ (e, oE) :: (it, oI) :: (C, oC) :: (D, LCg.lst ys) :: base, s₇.heap.get? p.1 = some p.2 := fun p hp => (G₇.N p (hn₇ hp)).1
        have Sb : St c m ((D, LCg.lst ys) :: base) s₇ := ⟨S₇.os, S₇.ga, h₀'', Gr0.ofC (m := m) hcm G₇.toGr0, fun p hp => G₇.N p (hn₇ (List.mem_cons_of_mem _ (List.mem_cons_of_mem _ (List.mem_cons_of_mem _ hp)))), .none hcm⟩
        have hst₇ := W.frame _ _ s₇.heap hst₆ fun b hb o q => by
          rcases List.mem_cons.mp hb with rfl | hb
          · rw [heE] at q; cases q; exact mem _ (List.mem_cons_self ..)
          rcases List.mem_cons.mp hb with rfl | hb
          · rw [heI] at q; cases q; exact mem _ (List.mem_cons_of_mem _ (List.mem_cons_self ..))
          obtain rfl := List.mem_singleton.mp hb
          have e1 := (N₆ _ (subB hl)).1
          rw [q] at e1; cases e1
          exact mem _ (subB hl)
        obtain ⟨hb₀, Gb⟩ := Sb.gr
        have zD := (Gb.N (D, LCg.lst ys) (List.mem_cons_self ..))
        have hyl : ys.length = i := by rw [lenOf hys, List.length_map, List.length_range]
        refine append_at zD.1 (fun h₈ hs₈ hD₈ => ?_) (by rw [List.size_toArray, sizeLine_eq]; omega)
        have GbF : Fr hb₀ c.L s₇.heap m := by have := Gb.F; rwa [Cx.fm_eq hcm] at this
        refine ⟨l.length + 1 - (i + 1), by omega, i + 1, ys ++ [v₇], rfl, hlt, W.frame _ _ h₈ hst₇ fun b hb o q => hs₈.extBut b o ?_ q, ⟨Sb.os, Sb.ga, hb₀, Gb.toGr0.at (by rw [Cx.fm_eq hcm]; exact GbF.change hs₈ hDL zD.2.2), fun p hp => ?_, .none hcm⟩, ⟨_, (hoC.ns (mem _ (List.mem_cons_of_mem _ (List.mem_cons_of_mem _ (List.mem_cons_self ..))))).sameBut hs₈ (Ne.symm hDC)⟩, ?_⟩
        · rcases List.mem_cons.mp hb with rfl | hb
          · exact hDe
          rcases List.mem_cons.mp hb with rfl | hb
          · exact hDi
          obtain rfl := List.mem_singleton.mp hb
          exact bD _ hl
        · rcases List.mem_cons.mp hp with rfl | hp
          · exact ⟨hD₈.trans (congrArg some (LCg.lst_snoc ys v₇)), zD.2.1, zD.2.2⟩
          · exact ⟨hs₈.extBut _ _ (bD p hp) (Gb.N p (List.mem_cons_of_mem _ hp)).1, (Gb.N p (List.mem_cons_of_mem _ hp)).2⟩
        · rw [List.range_succ, List.map_append]
          exact datAll_append hys (.cons (datIn_flat (by cases hv₇ with | dat h => exact h) hit'.2) .nil)
      · obtain rfl : i = l.length := Nat.le_antisymm hi (Nat.not_lt.mp hlt)
        rw [← hlen] at hst'
        refine W.done _ _ _ hst' fun h₂ tk₂ hk₂ => ?_
        have kk : ∀ b o, b ≠ e → b ≠ it → s'.heap.get? b = some o → h₂.get? b = some o := fun b o h1 h2 q => hk₂ b o (two_ h1 h2) q
        refine hRR D C _ ys (S'.heap ⟨h₀', G'.toGr0.at (by rw [Cx.fm_eq hcm]; exact ⟨GF'.ns.at' fun o q => kk _ o (Ne.symm heL) (Ne.symm hIL) q, fun b o q => kk b o (fun z => by rw [z, he0'] at q; cases q) (fun z => by rw [z, hi0'] at q; cases q) (GF'.keep b o q), GF'.above⟩), fun p hp => ?_, .none hcm⟩) hys ⟨mc, hns'.at' fun o q => kk _ o (Ne.symm hCe) (Ne.symm hCi) q⟩ hCg hCL hDC bC
        have z := G'.N p hp
        refine ⟨kk _ _ ?_ ?_ z.1, z.2⟩
        · rcases List.mem_cons.mp hp with rfl | hp
          · exact Ne.symm hDe
          · exact hE p hp
        · rcases List.mem_cons.mp hp with rfl | hp
          · exact Ne.symm hDi
          · exact hI p hp
    · refine S.heap ⟨h₀, G.toGr0.at (by rw [Cx.fm_eq hcm]; exact GF.keeps old), fun p hp => ?_, .none hcm⟩
      rcases List.mem_cons.mp hp with rfl | hp
      · exact ⟨hacc, hDL, hD0⟩
      · exact ⟨old _ _ (G.N p hp).1, (G.N p hp).2⟩
  refine codeAny_compStart_list (loop _ rfl) (W.self 0 _ _ _ ⟨⟨_, old _ _ hen⟩, hit.at fun o q => old _ _ q, (G.N.isList hl).at fun o q => old _ _ q⟩ (loop _ rfl))
end
end Mine
end
end
section
open PySem PySem.W PyProof.Rows PySem.Spec PySem.Calls
set_option maxRecDepth 100000
set_option linter.unusedVariables false
noncomputable section
namespace Mine
theorem k_enum (w : World) : nsIn (KF w) mainGlobals "enumerate" = some none := by kernel_rfl
theorem n_enum : ("enumerate" : PySem.Str) ≠ "__name__" := by decide
theorem b_enum : bootBuiltins ("enumerate" : PySem.Str) = some (.type "enumerate") := by with_unfolding_all rfl
section
variable {c : Cx} {m : PySem.Str → Option Value} {news news' : Led} {s s' : Shared} {ρ ρ' : Rho}
theorem ev_comp_enum (O : c.Ok) (hcm : c.cmp = none) {xi xv : PySem.Str} {pi pv pt pos pe pc : Pos} {kt : Nat} {e2 elt : Expr} {scope : Scope} {l : List Dat} (F : Nat → Dat) (hi : EV c ρ e2 (some (dl l))) (hfl : ∀ d ∈ l, flatD d = true) (hsz : l.length ≤ 1000)
    (hIs : ∀ i d, l[i]? = some d → ItemE c scope xi xv elt i d (F i)) (hclos : closureFor scope c.env = pure []) (hcell : ∀ y ∈ scope.names, y.2 ≠ .cell) (hkind : scope.kind = .function)
    (hnames : ∀ y ∈ scope.names, y.2 = .local → scope.names.lookup y.1 = some .local) (hxi : scope.names.lookup xi = some .local) (hxv : scope.names.lookup xv = some .local)
    (hen : c.env.kindOf "enumerate" = some .globalImplicit) (hse : starEach [e2] c.en = (false, eval e2 c.en) :: starEach [] c.en)
    (hs : ∀ x, foldedSetIterable (.Call (.Name "enumerate" pe) [e2] [] pc) c.env x = pure x) :
    EV c ρ (.ListComp elt [⟨.Tuple [.Name xi pi, .Name xv pv] kt pt, .Call (.Name "enumerate" pe) [e2] [] pc, [], 0⟩] scope pos) (some (dl ((List.range l.length).map F))) := by
  intro m news s Q E S hρ hQ
  rw [Cx.en_eq hcm, eval_ListComp]
  refine wpAny_comprehension_free (use := none) rfl hs hclos hkind hnames ?_
  rw [← Cx.en_eq hcm]
  have hkn : c.en.kindOf "enumerate" = some .globalImplicit := by rw [Cx.en_eq hcm]; exact hen
  refine wpAny_Call_Name_kw (ev_B O (k_enum _) b_enum n_enum hkn (by decide +kernel) m news s _ _ S hρ fun v n₁ s₁ hn₁ S₁ hv => ?_)
  cases hv
  have ha : EVs c ρ [e2] [dl l] := evs_cons hi evs_nil hse
  refine callWith_of (P := Keepable c (.type "enumerate")) (by rw [ha.plain, (Kws.all (ρ := ρ) (kws := []) (kds := []) kws_nil).2]; rfl) (fun h q => q) ?_
  refine evalArgs_kw2 (Kws.all (ρ := ρ) (kws := []) (kds := []) kws_nil).1 (ha.run S₁ (hρ.mono hn₁) fun vs n₂ s₂ hn₂ S₂ hvs => ?_) ha.2.1
  obtain ⟨v, rfl, hv⟩ := dall1 hvs
  refine kwAll_nil ⟨keep_plain (fun _ q => by cases q), ?_⟩
  obtain ⟨h₀, G⟩ := S₂.gr
  cases hv with | dat hv => cases hv with | list hm hr =>
    rename_i ax vs nn
    have hL : c.L < s₂.heap.objs.size := by
      have F := G.F
      rw [Cx.fm_eq hcm] at F
      obtain ⟨o, _, _, ho, _⟩ := F.ns
      exact Heap.lt_size ho
    have hlt : ∀ p ∈ n₂, p.1 < s₂.heap.objs.size := fun p hp => Heap.lt_size (G.N p hp).1
    refine call_enumerate_1 (G.N _ hm).1 fun h' he hit hz hk => ?_
    refine wpAny_pyIter_enum he ?_
    have none_ : ∀ a, s₂.heap.objs.size ≤ a → h₀.get? a = none := fun a ha => by
      cases e : h₀.get? a with
      | none => rfl
      | some o' => exact absurd (Heap.lt_size (G.F.keep a o' e)) (Nat.not_lt.mpr ha)
    have S₃ : St c m n₂ { s₂ with heap := h' } := S₂.heap (n := s₂.toks) ⟨h₀, G.at (G.F.keeps hk) (G.N.grown hk)⟩
    rw [Cx.en_eq hcm]
    refine comp_enum (ax := ax) (vs := vs) (l := l) O hcm F hm hr hfl hsz (fun p hp => Nat.ne_of_lt (Nat.lt_succ_of_lt (hlt p hp))) (fun p hp => Nat.ne_of_lt (hlt p hp)) (Nat.succ_ne_self _) (Nat.ne_of_gt (Nat.lt_succ_of_lt hL)) (Nat.ne_of_gt hL) (G.fresh_g (none_ _ (Nat.le_succ _))) (G.fresh_g (none_ _ (Nat.le_refl _))) hcell hkind hxi hxv hIs S₃ he hit
      fun D C s' ys S' hys hns hCg hCL hDC hbC => comp_end hcm hCg hCL hDC hbC S' hns hys (hQ.sub fun _ hp => hn₂ (hn₁ hp))
end
end Mine
end
end
section
open PySem PySem.W PyProof.Rows PySem.Spec PySem.Calls
set_option maxRecDepth 100000
set_option linter.unusedVariables false
noncomputable section
namespace Mine
/-! the law itself -/
def fixedL : List PySem.Str := ["1", "2.0-", "0.3+", "4.5.6-a.1+b-c"]
theorem k_fixed (w : World) : ∃ a, nsIn (KF w) mainGlobals "_law_fixed" = some (some (.ref a)) ∧ ∃ c d n sl t1 t2 t3 t4, (KF w).lookup a = some ⟨c, d, .seq #[.str "1" t1, .str "2.0-" t2, .str "0.3+" t3, .str "4.5.6-a.1+b-c" t4] n, sl⟩ ∧ c = .type "list" := ⟨_, by with_unfolding_all rfl, _, _, _, _, _, _, _, _, by with_unfolding_all rfl, rfl⟩
section
variable {c : Cx} {m : PySem.Str → Option Value} {news news' : Led} {s s' : Shared} {ρ ρ' : Rho}
/-- a list of the globals, and a list behind it -/
theorem op_add_glob {a : Addr} {its : List Value} {x y : List Dat} {n : Nat} {cl : Value} {d : Option Addr} {sl : Array (Option Value)} (hk : (KF c.w).lookup a = some ⟨cl, d, .seq its.toArray n, sl⟩) (hc : cl = .type "list") (hx : ∀ news, DatAll news its x) (h : x.length + y.length ≤ 1000) :
    OP c (binaryOp .Add) (.val (.ref a)) (dl y) (some (dl (x ++ y))) := by
  intro m news s v u Q E S hv hu hQ
  obtain ⟨h₀, G⟩ := S.gr
  cases hv
  cases hu with | dat hu => cases hu with | list m2 r2 =>
    have hl : s.heap.IsList a its.toArray := ⟨_, G.F.keep _ _ (G.X _ _ hk), hc, n, rfl⟩
    have l1 := lenOf (hx [])
    have l2 := lenOf r2
    refine add_arrays G.F G.N hl (G.N.isList m2) (fun h' F N => ?_) (by rw [List.size_toArray, List.size_toArray, sizeLine_eq]; omega)
    exact hQ.ok (List.subset_cons_self _ _) (s' := { s with heap := h' }) (S.heap ⟨h₀, G.at F N⟩) (.dat (.list (List.mem_cons_self ..) ((hx _).append (r2.mono fun _ hp => List.mem_cons_of_mem _ hp))))
theorem ints_dat {news : Led} : ∀ {vs : List Value} {ns : List Int}, IntsAre vs ns → DatAll news vs (ns.map .int)
  | _, _, .nil => .nil
  | _, _, .cons n t h => .cons (.int n t) (ints_dat h)
/-- script[:8] -/
theorem ev_script (O : c.Ok) {x : PySem.Str} {px p pos pk : Pos} {kk : Nat} {a : Addr} {vs : List Value} {ns : List Int} (hx : ρ x = some (.val (.ref a))) (hkx : c.en.kindOf x = some .local) (hd : (x == ("__debug__" : PySem.Str)) = false)
    (hl : c.g₀.IsList a vs.toArray) (ha : a ∉ c.fs) (h392 : a ≠ 392) (hi : IntsAre vs ns) (hsz : ns.length ≤ 1000)
    (hs : ∀ (v i : Value), subscripted (.Slice none (some (.Constant (.int 8) kk pk)) none p) false v i = operate [i, v] (getItem v i)) (ht : ∀ o r : Value, letTemporaryGo (.Name x px) o r = pure ()) :
    EV c ρ (.Subscript (.Name x px) (.Slice none (some (.Constant (.int 8) kk pk)) none p) pos) (some (dl ((ns.take 8).map .int))) := by
  intro m news s Q E S hρ hQ
  refine Subscript_ (ev_local O hx hkx hd m news s _ _ S hρ fun v n₁ s₁ hn₁ S₁ hv => ?_)
  cases hv
  refine wpAny_Slice (PV.run (e := none) (o := none) trivial S₁ (hρ.mono hn₁) fun ua n₂ s₂ hn₂ S₂ => PV.run (e := some (.Constant (.int 8) kk pk)) (o := some 8) (c := c) (ρ := ρ) ev_int S₂ (hρ.mono fun _ hp => hn₂ (hn₁ hp)) fun ub n₃ s₃ hn₃ S₃ => ?_)
  refine wpAny_pure ?_
  obtain ⟨h₀, G⟩ := S₃.gr
  have hlist : s₃.heap.IsList a vs.toArray := hl.at fun o q => G.F.keep _ _ (G.turn.other _ _ q ha h392)
  have hlen : vs.length = ns.length := hi.length
  refine slice_list (lo := none) (hi := some 8) G.F G.N hlist .none (.int 8 _) (fun h' F N => ?_) (hs _ _) (fun r => ht _ r) (by rw [List.size_toArray, sizeLine_eq]; omega)
  have e8 : slicePick vs.toArray none (some 8) none = (vs.take 8).toArray := slicePick_upto' vs.toArray 8
  rw [e8] at N
  exact hQ.ok (fun _ hp => List.mem_cons_of_mem _ (hn₃ (hn₂ (hn₁ hp)))) (S₃.heap ⟨h₀, G.at F N⟩) (.dat (.list (List.mem_cons_self ..) (ints_dat (hi.take 8))))
end
theorem sh_fixed : ∀ x ∈ fixedL, Sh x 280 := by
  have : fixedL.all (fun x => shB x 280) = true := by decide +kernel
  intro x hx
  exact sh_of (List.all_eq_true.mp this x hx)
theorem k_case (w : World) : nsIn (KF w) mainGlobals "_law_case" = some (some (.ref 517)) := by kernel_rfl
theorem k_text (w : World) : nsIn (KF w) mainGlobals "_law_text" = some (some (.ref 497)) := by kernel_rfl
theorem turns_all {c : Cx} {x : PySem.Str} {body : List Stmt} (Pv : Rho → Prop) : ∀ (l : List Dat), (∀ d ∈ l, ∀ ρ, Pv ρ → EX c (upd ρ x (.dat d)) body (.next (upd ρ x (.dat d))) ∧ Pv (upd ρ x (.dat d))) → ∀ ρ, Pv ρ → ∃ ρ', Turns c x body ρ l (.next ρ') ∧ Pv ρ'
  | [], _, ρ, h => ⟨ρ, rfl, h⟩
  | d :: l, hl, ρ, h => by
    have q := hl d (List.mem_cons_self ..) ρ h
    obtain ⟨ρ', a, b⟩ := turns_all Pv l (fun d hd => hl d (List.mem_cons_of_mem _ hd)) _ q.2
    exact ⟨ρ', turns_next q.1 a, b⟩
theorem ex_for_all {c : Cx} {ρ : Rho} (O : c.Ok) {x : PySem.Str} {px pos : Pos} {iter : Expr} {body : List Stmt} {l : List Dat} (hi : EV c ρ iter (some (dl l))) (hx : c.env.kindOf x = some .local)
    (hB : ∀ d ∈ l, ∀ ρ, EX c (upd ρ x (.dat d)) body (.next (upd ρ x (.dat d)))) (hs : ∀ x, foldedSetIterable iter c.env x = pure x := by intro _; rfl) : ∃ ρ', EX1 c ρ (.For (.Name x px) iter body [] pos) (.next ρ') ∧ True := by
  obtain ⟨ρ', hT, _⟩ := turns_all (fun _ => True) l (fun d hd ρ _ => ⟨hB d hd ρ, trivial⟩) ρ trivial
  exact ⟨ρ', ex_for_list O hi hT hx hs, trivial⟩
/-- the texts -/
def textsL (ns : List Int) : List PySem.Str := fixedL ++ (List.range (ns.take 8).length).map fun i => textS ((ns.take 8).getD i 0) i
theorem textsL_sh (ns : List Int) : ∀ x ∈ textsL ns, Sh x 280 := fun x hx => by
  unfold textsL at hx
  rcases List.mem_append.mp hx with q | q
  · exact sh_fixed x q
  · obtain ⟨i, _, rfl⟩ := List.mem_map.mp q
    exact sh_text _ _
local macro_rules | `(tactic| walk_at "leaf") => `(tactic| first | exact ev_str | exact ev_int | exact ev_none | exact ev_bool | exact ev_local (by assumption) (by with_unfolding_all rfl) (by kernel_rfl) (by kernel_rfl))
/-- a call from the caller's own place -/
theorem top_of {w : World} {f : Addr} {name qual : PySem.Str} {params : Arguments} {body : List Stmt} {scope : Scope} {dV kV doc pm cdv ct oc : Value} {an od : Option Addr} {osl : Array (Option Value)} {ρ₀ : Rho}
    {mean : ExcName → Option Value} {mg mb : PySem.Str → Option Value} {base : Heap} {s : Shared} {vs : List Value} {binds : List (PySem.Str × Value)} {R : Result → Shared → Prop}
    (ho : (KF w).lookup f = some ⟨oc, od, .func (fnOf name qual params body scope dV kV doc pm an cdv ct), osl⟩) (hcd : codeIn (KF w) cdv qual = true)
    (hbind : BindsTo s (fnOf name qual params body scope dV kV doc pm an cdv ct) ⟨vs, []⟩ binds) (hloc : ∀ y ∈ binds, scope.names.lookup y.1 = some .local) (hρ : Loc ρ₀ (fun y => binds.reverse.lookup y) [])
    (X : (KF w).In s.heap) (XB : (KF w).In base) (TB : TP mean mg mb base) (T : TP mean mg mb s.heap) (hst : ∀ b o, base.get? b = some o → s.heap.get? b = some o) (hbt : base.get? 392 = none) (htab : s.heap.get? 392 = some (tabObj #[]))
    (hga : AllBare s.gens)
    (hbody : ∀ L, Cx.Ok ⟨w, mean, mg, mb, base, callerA, [], qual, scope, L, f, cdv, s.heap, false, 5, s.os, none⟩ → EX ⟨w, mean, mg, mb, base, callerA, [], qual, scope, L, f, cdv, s.heap, false, 5, s.os, none⟩ ρ₀ body (.ret (db true)))
    (hk : scope.kind = .function) (hco : scope.isCoroutine = false) (hgen : scope.isGenerator = false) (hcell : ∀ x ∈ scope.names, x.2 ≠ .cell)
    (hR : ∀ s', s'.os = s.os → AllBare s'.gens → (∃ g, Trn [] s.heap g ∧ TabIn g ∧ ∀ b o, g.get? b = some o → s'.heap.get? b = some o) → R (.ok (.ret (.bool true))) s') :
    codeAny (model P w) callerA (.call (.ref f) ⟨vs, []⟩) R s := by
  have tb : TabIn s.heap := ⟨#[], htab, by exact trivial⟩
  refine codeAny_call_def (fd := fnOf name qual params body scope dV kV doc pm an cdv ct) (body := body) (binds := binds) (by decide) (X _ _ ho) rfl T.nolimit (codeRec_of X hcd) rfl hbind hcell hloc (fun h₁ hns hk₁ => ?_) hco hgen hk
  have O : Cx.Ok ⟨w, mean, mg, mb, base, callerA, [], qual, scope, s.heap.objs.size, f, cdv, s.heap, false, 5, s.os, none⟩ := ⟨hk, XB, TB, rfl, (by show callerA.depth + 8 * 5 ≤ 950; decide), (by show callerA.units + 100 * 5 ≤ 9000; decide), hk, rfl, rfl, hbt⟩
  have F : Fr s.heap s.heap.objs.size h₁ (fun y => binds.reverse.lookup y) := ⟨hns, hk₁, Nat.le_refl _⟩
  have S : St ⟨w, mean, mg, mb, base, callerA, [], qual, scope, s.heap.objs.size, f, cdv, s.heap, false, 5, s.os, none⟩ (fun y => binds.reverse.lookup y) [] { s with heap := h₁, toks := s.toks + binds.length } :=
    ⟨rfl, hga, s.heap, ⟨⟨(fun q => by cases q), Trn.refl, ⟨rfl, hst, trivial⟩, F, X, T, (fun b hb => by cases hb), tb⟩, (fun p hp => by cases hp), .none rfl⟩⟩
  refine hbody _ O rfl _ [] _ _ _ PassesOwn.leaving S hρ fun m' v news' s' hn S' hv => ?_
  cases hv with | dat hv =>
  cases hv
  obtain ⟨g, G⟩ := S'.gr
  exact hR s' S'.os S'.ga ⟨g, G.turn, G.tb, G.F.keep⟩
/-- the call of the law -/
theorem law_call (w : World) {mean : ExcName → Option Value} {mg mb : PySem.Str → Option Value} {base : Heap} {s : Shared} {ax : Addr} {vs : List Value} {ns : List Int} {R : Result → Shared → Prop}
    (X : (KF w).In s.heap) (XB : (KF w).In base) (TB : TP mean mg mb base) (T : TP mean mg mb s.heap) (hst : ∀ b o, base.get? b = some o → s.heap.get? b = some o) (hbt : base.get? 392 = none) (htab : s.heap.get? 392 = some (tabObj #[]))
    (hga : AllBare s.gens) (hl : s.heap.IsList ax vs.toArray) (hi : IntsAre vs ns) (hlen : ns.length ≤ 63) (hbits : ∀ n ∈ ns, Bits n 1048576)
    (hR : ∀ s', s'.os = s.os → AllBare s'.gens → (∃ g, Trn [] s.heap g ∧ TabIn g ∧ ∀ b o, g.get? b = some o → s'.heap.get? b = some o) → R (.ok (.ret (.bool true))) s') :
    codeAny (model P w) callerA (.call (.ref 522) ⟨[.ref ax], []⟩) R s := by
  have h392 : ax ≠ 392 := fun q => by
    obtain ⟨o, ho, hc, _⟩ := hl
    rw [q, htab] at ho; cases ho; cases hc
  refine top_of (f := 522) (ρ₀ := rho [("script", .val (.ref ax))]) (binds := [("script", .ref ax)]) (ho := by with_unfolding_all rfl) (by kernel_rfl) (BindsTo.of_eq rfl) (fun y hy => by rw [List.mem_singleton.mp hy]; rfl) (loc_of (news := []) (kvs := [("script", .ref ax)]) (kds := [("script", .val (.ref ax))]) (show KAll [] [_] [_] from ⟨rfl, .val, trivial⟩)) X XB TB T hst hbt htab hga (fun L O => ?_) rfl rfl rfl (by simp) hR
  obtain ⟨af, e1, cl, d, n, sl, t1, t2, t3, t4, hf, hcl⟩ := k_fixed w
  have hx : ∀ news, DatAll news [.str "1" t1, .str "2.0-" t2, .str "0.3+" t3, .str "4.5.6-a.1+b-c" t4] (fixedL.map .str) := fun news => .cons (.str _ _) (.cons (.str _ _) (.cons (.str _ _) (.cons (.str _ _) .nil)))
  have hl8 : (ns.take 8).length ≤ 8 := by rw [List.length_take]; omega
  have et : (textsL ns).map Dat.str = fixedL.map .str ++ (List.range ((ns.take 8).map Dat.int).length).map fun i => Dat.str (textS ((ns.take 8).getD i 0) i) := by
    unfold textsL
    rw [List.map_append, List.map_map, List.length_map]; rfl
  refine ex_consU (d := dl ((textsL ns).map .str)) (ex_assign O (ev_binop (ev_K O e1 (by kernel_rfl) (by kernel_rfl)) (ev_comp_enum O rfl (fun i => Dat.str (textS ((ns.take 8).getD i 0) i)) (ev_script O (by with_unfolding_all rfl) (by kernel_rfl) (by kernel_rfl) hl (fun q => by cases q) h392 hi (by omega) (fun _ _ => rfl) (fun _ _ => rfl)) (fun d hd => ?_) (by rw [List.length_map]; omega) (fun i d hd C m OC => ?_) (by kernel_rfl) (by simp) rfl (by decide +kernel) (by kernel_rfl) (by kernel_rfl) (by kernel_rfl) rfl (fun _ => rfl)) (et ▸ op_add_glob hf hcl hx ?_)) (by kernel_rfl)) ?_
  · obtain ⟨k, _, rfl⟩ := List.mem_map.mp hd; rfl
  · rw [List.getElem?_map] at hd
    obtain ⟨k, hk, rfl⟩ := Option.map_eq_some_iff.mp hd
    have hi8 : i < 8 := by
      have := (List.getElem?_eq_some_iff.mp hk).1
      omega
    have hg : (ns.take 8).getD i 0 = k := by rw [List.getD_eq_getElem?_getD, hk]; rfl
    rw [hg]
    refine ⟨ev_call (ev_K OC (k_text w) (by kernel_rfl) (by kernel_rfl)) (evs_cons (ev_local OC (by with_unfolding_all rfl) (by kernel_rfl) (by kernel_rfl)) (evs_cons (ev_local OC (by with_unfolding_all rfl) (by kernel_rfl) (by kernel_rfl)) evs_nil)) kws_nil fun _ => callable_fn OC (fn_text w (Nat.le_refl _) (hbits k (List.mem_of_mem_take (List.mem_of_getElem? hk))) (by omega) (by omega)) (by show 2 < 5; decide) (fun q => by cases q) (by kernel_rfl), rfl⟩
  · rw [List.length_map, List.length_map, List.length_range, List.length_map]
    show 4 + _ ≤ 1000
    omega
  refine ex_branch (fun _ => True) (ex_for_all O (by walk_at "leaf") (by kernel_rfl) fun d hd ρ => ?_) fun ρ' _ => ex_ret (ex_return ev_bool)
  obtain ⟨x, hx', rfl⟩ := List.mem_map.mp hd
  obtain ⟨l, rfl, h1, h2⟩ := textsL_sh ns x hx'
  exact ex_one (ex_if (et_not (et_value (ev_call (ev_K O (k_case w) (by kernel_rfl) (by kernel_rfl)) (evs_cons (by walk_at "leaf") evs_nil) kws_nil fun _ => callable_fn O (fn_case w h1 (by omega)) (by show 4 < 5; decide) (fun _ => rfl) (by kernel_rfl)) (ob_dat (x := .bool true) trivial))) (fun q => by cases q) (fun _ => ex_nil))
end Mine
end
end
section
open PySem PySem.W PyProof.Rows PySem.Spec PySem.Calls
set_option maxRecDepth 100000
set_option linter.unusedVariables false
noncomputable section
namespace Mine
theorem oldK_of {h₁ g h : Heap} (hc : CodeHd h₁ 396 392) (ht : h₁.get? 392 = some (tabObj #[])) (T : Trn [] h₁ g) (tb : TabIn g) (k : ∀ b o, g.get? b = some o → h.get? b = some o) : OldK h₁ h := by
  have tb1 : TabIn h₁ := ⟨#[], ht, by exact trivial⟩
  refine ⟨fun b o e => ?_, fun b o e => ?_⟩
  · by_cases hb : b = 392
    · subst hb
      rw [ht] at e
      cases e
      obtain ⟨ps, hp, _⟩ := tb
      refine .inr (.inl ⟨(hc.tab ht).isCodeTable, rfl, #[], ps, rfl, ?_⟩)
      rw [Array.empty_append]
      exact k _ _ hp
    · exact .inl (k _ _ (T.other b o e (by simp) hb))
  · obtain ⟨o', h'⟩ := T.some tb1 e
    exact ⟨o', k _ _ h'⟩
end Mine
end
end
open PySem PySem.W PyProof.Rows
set_option maxRecDepth 100000 in
set_option maxHeartbeats 8000000 in
theorem PySem.Challenge.cw_bt5018_01_holds : PySem.Challenge.rw_bt5018_01.Holds := by
  refine hd ?_
  w_on
  intro w s₀ s₁ mg mb G Y fa o pm cd doc dV kV ho hd hcd hD hmg hg args vals as hpre hlay hrd hwl hlo
  have KX := km_in_of Y
  have hT8 := km_tabs_of Y
  have X := (Ground.X G).1
  have V := (Ground.X G).2
  refine Ground.open G ?_
  intro T B D TE TW
  have h396 := codeHd_of_K (c := 396) (P := 392) KX (by kernel_rfl)
  have hT9 : TabsAt ([(396, 392)] : List (Addr × Addr)) s₁.heap := List.forall_mem_cons.mpr ⟨⟨h396, hT8 392 (by simp)⟩, fun _ h => nomatch h⟩
  have hfa : fa = 522 := by
    have e := mg_of KX T.g (n := PySem.Str.ofString "law") (v := .ref 522) (by kernel_rfl)
    have e2 : mg (PySem.Str.ofString "law") = some (.ref fa) := hmg
    rw [e] at e2
    injection e2 with e2
    injection e2 with e2
    exact e2.symm
  subst hfa
  wrow_args hpre hlay hrd hwl hlo
  all_goals refine enter_call ?_
  rename_i ns _ _ hlay1 _ _ _ _ ax vs _ hL _ _ _ hI _ hcond _
  refine Mine.law_call w (ns := ns) KX (ghost_K hT9 KX (by kernel_rfl)) (ghost_top hT9 T) (ghost_top (tabs := []) (fun _ h => nomatch h) T) (fun b o e => of_hideAll _ e) (hideAll_none _ (by simp)) (hT8 392 (by simp)) (.of_eq hg) hL hI (by omega) (fun n hn => ?_) fun s' h1 h2 h3 => ?_
  · exact Mine.Bits.of (Nat.le_trans (PyData.bits_item_of_ints hlay1 hn) (by decide))
  · obtain ⟨g, t1, t2, t3⟩ := h3
    refine ⟨.inl ⟨.bool true, .bool true, [], rfl, raisesW_false ?_, .bool true, ?_, unshared_nil⟩, Mine.oldK_of h396 (hT8 392 (by simp)) t1 t2 t3, h1, h2⟩
    · wrow_none_raised
    · wrow_post
