import PyProof.Rows.All
import Wide.All
import OpenK.AllK
import Wide.FinOn
import Lean
import PySem.Challenge.RW_pe0259_01
open PySem PySem.W PyProof.Rows
set_option Elab.async false
set_option maxRecDepth 100000
set_option maxHeartbeats 8000000
namespace Mine
noncomputable def pick (l : List Stmt) : List Stmt := match l with
  | [c0, _, c2, c3, c4, c5, c6, c7, c8, _, c10, _, c12, _, c14, c15, c16, c17, c18, c19, c20] => [c0, c2, c3, c4, c5, c6, c7, c8, c10, c12, c14, c15, c16, c17, c18, c19, c20]
  | _ => []
noncomputable def view : Program := { PySem.Challenge.pw_pe0259_01 with main := { PySem.Challenge.pw_pe0259_01.main with body := pick PySem.Challenge.pw_pe0259_01.main.body } }
theorem well : OpenLaw.wellSaid PySem.Challenge.rw_pe0259_01 = true := (congrFun PySem.W.Fast.te9446332074065402090 _).trans (by kernel_rfl)
section
local macro_rules | `(tactic| w_witness2) => `(tactic| trivial)
local macro_rules | `(tactic| o_head $_) => `(tactic| refine (fun (_ : True) hc => hc) ?hw ?hc)
local macro_rules | `(tactic| o_law) => `(tactic| refine holds_law well fun said => ?_)
open_top hd for PySem.Challenge.rw_pe0259_01
end
theorem walk_off : True := by
  w_top off
  trivial
noncomputable def ads : List Addr := [2, 3, 15, 17, 18, 20, 21, 22, 24, 25, 27, 28, 29, 31, 32, 34, 35, 36, 38, 39, 41, 42, 43, 45, 46, 48, 49, 50, 52, 53, 55, 56, 57, 59, 60, 62, 63, 71, 73, 74, 76, 77, 78, 80, 81, 83, 84, 85, 87, 88, 90, 91, 92, 94, 95, 97, 98, 99, 100, 101, 102, 103, 116, 118, 119, 121, 122, 123, 125, 126, 128, 129, 130, 132, 133, 135, 136, 137, 139, 140, 142, 143, 144, 146, 147, 149, 150, 151, 153, 154, 156, 157, 158, 160, 161, 163, 164, 165, 166, 167, 168, 169, 172, 174, 175, 177, 178, 179, 181, 182, 184, 185, 186, 188, 189, 191, 192, 193, 196, 197, 198, 200, 201, 203, 204, 205, 207, 208, 210, 211, 212, 215, 216]
theorem adsE : ∀ P : Params, ads = (hd.heap_1 P).map (·.1) := fun _ => by kernel_rfl
noncomputable abbrev hk : Hook := kmHook hd.heap_1 ads adsE [173, 44, 37]
noncomputable abbrev PP : Program := (OpenLaw.row PySem.Challenge.rw_pe0259_01).prog
noncomputable def topRunQ (p : Program) (w : World) (n₀ : Nat) (ann : Option Value) : Nat → SharedT → Thread → Option SharedT
  | 0, _, _ => none
  | n + 1, s, t => match through t with
    | true => some s
    | false => match PySem.W.Fast.tw6613529449190102663 n₀ ann t with
      | false => none
      | true => match PySem.W.Fast.tw10156331382660048174 (PySem.W.Fast.tw11892475500146522536 PySem.W.Fast.tw14364793385576792824) p w s t with
        | some (s', t') => topRunQ p w n₀ ann n s' t'
        | none => none
theorem topRunQ_of {p : Program} {w : World} {n₀ : Nat} {ann : Option Value} : ∀ {n : Nat} {s s' : SharedT} {t : Thread}, topRunQ p w n₀ ann n s t = some s' → topRun treeTable p w n₀ ann n s.abs t = some s'.abs
  | 0, _, _, _, h => by cases h
  | n + 1, s, s', t, h => by
    unfold topRunQ at h
    rw [← PySem.W.Fast.te6613529449190102663, ← PySem.W.Fast.te10156331382660048174, ← PySem.W.Fast.te11892475500146522536, ← PySem.W.Fast.te14364793385576792824] at h
    unfold topRun
    cases he : through t with
    | true => rw [he] at h; cases h; rfl
    | false =>
      rw [he] at h
      cases hk : stepOk n₀ ann t with
      | false => rw [hk] at h; cases h
      | true =>
        rw [hk] at h
        cases hs : stepT (denote treeTable) p w s t with
        | none => rw [hs] at h; cases h
        | some r => obtain ⟨s₂, t₂⟩ := r; rw [hs] at h; rw [stepT_spec hs]; exact topRunQ_of h
noncomputable def bt (l : List Obj) : Nat → Nat → Nat → BT
  | 0, _, _ => .nil
  | f + 1, a, b => match l[b]? with
    | some o => .node o (bt l f (2 * a) (a + b)) (bt l f (2 * a) (2 * a + b))
    | none => .nil
noncomputable def bootS (P : Params) (os : OsState) : SharedT := ⟨bt (boot_heap P).objs.toList 12 1 0, (boot_heap P).objs.size, (boot_heap P).life, #[], boot_drawn, boot_toks, os⟩
theorem bootS_abs (P : Params) (os : OsState) : (bootS P os).abs = ⟨boot_heap P, #[], boot_drawn, boot_toks, os⟩ := by kernel_rfl
noncomputable abbrev Xs (s : Shared) : Bool := xlAt view [] s && recOk (RowW.records (OpenRow.toRowW (OpenLaw.row PySem.Challenge.rw_pe0259_01))) s
noncomputable def seenQ (h₀ : Heap) (s : Shared) := ((staticsOk (PySem.W.Fast.tw5923862056798008813 PP.main.body) h₀ s.heap && namesBound PP s.heap && gensDone s && laidKept h₀ s.heap),
  PySem.W.Fast.tw4187177175401517315 view [PySem.Str.ofString "Whitespace"] (PySem.W.Fast.tw5923862056798008813 PP.main.body) Xs true s, hk.obs s)
/-- what a run of the top shows, in the world w -/
noncomputable def Run (w : World) : Prop := ∀ os : OsState, ∃ S : Shared, topRun treeTable PP w (boot_heap w.params).objs.size ((boot_heap w.params).nsMap mainGlobals "__annotations__") 2744 ⟨boot_heap w.params, #[], boot_drawn, boot_toks, os⟩ (topStub PP) = some S ∧
  (staticsOk (importedModules PP.main.body) (boot_heap w.params) S.heap && namesBound PP S.heap && gensDone S && laidKept (boot_heap w.params) S.heap) = true ∧
  openSeen view [PySem.Str.ofString "Whitespace"] (importedModules PP.main.body) Xs true S = openGood view [PySem.Str.ofString "Whitespace"] ∧ hk.obs S = hk.val w
noncomputable def wf (b : Bool) (w : World) : World := w.withFollow "special-get-raises" b
theorem run_of {w : World} (h : ∀ os : OsState, (topRunQ PP w (boot_heap w.params).objs.size (PySem.W.Fast.tw8920871248978507458 (boot_heap w.params) mainGlobals "__annotations__") 2744 (bootS w.params os) (topStub PP)).map (fun S => seenQ (boot_heap w.params) S.abs) =
    some (true, openGood view [PySem.Str.ofString "Whitespace"], hk.val w)) : Run w := fun os => by
  obtain ⟨S, e1, e2⟩ := Option.map_eq_some_iff.mp (h os)
  have r := topRunQ_of e1
  rw [bootS_abs, ← PySem.W.Fast.te8920871248978507458] at r
  unfold seenQ at e2
  rw [← PySem.W.Fast.te5923862056798008813, ← PySem.W.Fast.te4187177175401517315] at e2
  obtain ⟨e3, e4⟩ := Prod.mk.inj e2
  obtain ⟨e4, e5⟩ := Prod.mk.inj e4
  exact ⟨S.abs, r, e3, e4, e5⟩
theorem run_f (w : World) (os : OsState) : (topRunQ PP (wf false w) (boot_heap (wf false w).params).objs.size (PySem.W.Fast.tw8920871248978507458 (boot_heap (wf false w).params) mainGlobals "__annotations__") 2744 (bootS (wf false w).params os) (topStub PP)).map (fun S => seenQ (boot_heap (wf false w).params) S.abs) =
    some (true, openGood view [PySem.Str.ofString "Whitespace"], hk.val (wf false w)) := by kernel_rfl
theorem run_t (w : World) (os : OsState) : (topRunQ PP (wf true w) (boot_heap (wf true w).params).objs.size (PySem.W.Fast.tw8920871248978507458 (boot_heap (wf true w).params) mainGlobals "__annotations__") 2744 (bootS (wf true w).params os) (topStub PP)).map (fun S => seenQ (boot_heap (wf true w).params) S.abs) =
    some (true, openGood view [PySem.Str.ofString "Whitespace"], hk.val (wf true w)) := by kernel_rfl
theorem runs : ∀ w : World, Run w := byRow2 "special-get-raises" (fun w => run_of (run_f w)) (fun w => run_of (run_t w))
theorem open_boot : ∀ w : World, (fencedOpening treeTable PP w 2744).map (fun s => (s.heap, s.gens, s.drawn, s.toks)) = some (boot_heap w.params, Array.mk [], boot_drawn, boot_toks) :=
  boot_open (by kernel_rfl) (by decide) (fun s => by kernel_rfl)
theorem boot_ns (P : Params) : ((boot_heap P).isNs mainGlobals && ((#[] : Array GenState).size == 0)) = true := by kernel_rfl
theorem left : LeftO PP view [PySem.Str.ofString "Whitespace"] Xs hk.obs hk.val 2744 := fun w => by
  obtain ⟨⟨h, gs, d, k, os⟩, e, e'⟩ := Option.map_eq_some_iff.mp (open_boot w)
  obtain ⟨rfl, rfl, rfl, rfl⟩ : h = boot_heap w.params ∧ gs = #[] ∧ d = boot_drawn ∧ k = boot_toks := by simpa using e'
  obtain ⟨S, r, l1, l2, l3⟩ := runs w os
  have t : topFrom treeTable PP w 2744 ⟨boot_heap w.params, #[], boot_drawn, boot_toks, os⟩ = some S := by
    unfold topFrom
    dsimp only
    rw [boot_ns, r]
    show (match staticsOk (importedModules PP.main.body) (boot_heap w.params) S.heap && namesBound PP S.heap && gensDone S && laidKept (boot_heap w.params) S.heap with | true => _ | false => _) = _
    rw [l1]
  unfold openEnds
  rw [e]
  show (topFrom treeTable PP w 2744 _).map _ = _
  rw [t]
  exact congrArg some (Prod.ext l2 l3)
end Mine
open PySem PySem.W PyProof.Rows PySem.Calls PySem.Builtin
set_option linter.unusedVariables false
set_option linter.unusedSimpArgs false
namespace Mine

theorem room0 {x D r : Nat} (h : x + D < r) : x < r := Nat.lt_of_le_of_lt (Nat.le_add_right x D) h
theorem room1 {x D a r : Nat} (h : x + D < r) (k : Nat.ble a D = true) : x + a < r := Nat.lt_of_le_of_lt (Nat.add_le_add_left (Nat.le_of_ble_eq_true k) x) h
theorem room2 {x D a b r : Nat} (h : x + D < r) (k : Nat.ble (a + b) D = true) : x + a + b < r := by rw [Nat.add_assoc]; exact room1 h k
theorem room3 {x D a b c r : Nat} (h : x + D < r) (k : Nat.ble (a + (b + c)) D = true) : x + a + b + c < r := by rw [Nat.add_assoc]; exact room2 h k
theorem room4 {x D a b c d r : Nat} (h : x + D < r) (k : Nat.ble (a + (b + (c + d))) D = true) : x + a + b + c + d < r := by rw [Nat.add_assoc]; exact room3 h k


noncomputable abbrev Ar (dp un : Nat) (gd : Option (List Code)) (outer : List Env) : Around := { handled := none, depth := dp, frames := some outer, guards := gd, units := un }

/-- a contract: the call of f by args, over the objects sel, all else (g) kept -/
noncomputable def Con (w : World) (D U : Nat) (f : Addr) (args : List Value) (sel : List (Addr × Obj)) (Post : Nat → Value → List (Addr × Obj) → Prop) : Prop :=
  ∀ (dp un : Nat) (gd : Option (List Code)) (outer : List Env) (base g : Heap) (tp : Program) (tl : List Str) (mean : ExcName → Option Value) (mg mb : Str → Option Value) (s : Shared) (R : Result → Shared → Prop),
    Below (Ar dp un gd outer) base outer g → g.StaysIn s.heap → g.objs.size ≤ s.heap.objs.size → (∀ p ∈ sel, s.heap.get? p.1 = some p.2 ∧ g.get? p.1 = none) → (hd.heap_1 w.params).In g → Top tp tl mean mg mb g →
    dp + D < recursionLimit → un + U < cLine →
    (∀ v sel' h' tk', g.StaysIn h' → (∀ p ∈ sel', h'.get? p.1 = some p.2 ∧ g.get? p.1 = none) → Post s.heap.objs.size v sel' → R (.ok (.ret v)) { s with heap := h', toks := tk' }) →
    codeAny (model Challenge.rw_pe0259_01.row.prog w) (Ar dp un gd outer) (.call (.ref f) ⟨args, []⟩) R s

theorem Con.mono {w : World} {D U : Nat} {f : Addr} {args : List Value} {sel : List (Addr × Obj)} {Post Post' : Nat → Value → List (Addr × Obj) → Prop} (C : Con w D U f args sel Post) (h : ∀ n v sel', Post n v sel' → Post' n v sel') : Con w D U f args sel Post' :=
  fun dp un gd outer base g tp tl mean mg mb s R a1 a2 a3 a4 a5 a6 a7 a8 ret => C dp un gd outer base g tp tl mean mg mb s R a1 a2 a3 a4 a5 a6 a7 a8 fun v sel' h' tk' k1 k2 k3 => ret v sel' h' tk' k1 k2 (h _ _ _ k3)

theorem enter_g {prog : Program} {w : World} {A : Around} {s : Shared} {base g : Heap} {outer : List Env} {K : Frag} {p : Program} {loose : List Str} {mean : ExcName → Option Value} {mg mb : Str → Option Value} {sel : List (Addr × Obj)}
    {R : Result → Shared → Prop} {name qual : Str} {params : Arguments} {body : List Stmt} {scope : Scope} {dV kV doc pm cdv ct oc : Value} {an od : Option Addr} {osl : Array (Option Value)} {f : Addr} {args : Args} {binds : List (Str × Value)}
    (B : Below A base outer g) (hg : g.StaysIn s.heap) (hsz : g.objs.size ≤ s.heap.objs.size) (hsel : ∀ p ∈ sel, s.heap.get? p.1 = some p.2 ∧ g.get? p.1 = none) (X : K.In g) (T : Top p loose mean mg mb g)
    (ho : K.lookup f = some ⟨oc, od, .func (fnOf name qual params body scope dV kV doc pm an cdv ct), osl⟩) (hcd : codeIn K cdv qual = true) (hroom : A.depth < recursionLimit)
    (hbind : BindsTo s (fnOf name qual params body scope dV kV doc pm an cdv ct) args binds) (hloc : ∀ y ∈ binds, scope.names.lookup y.1 = some .local)
    (h : ∀ L' h₁ tk, Fr g L' h₁ (fun y => binds.reverse.lookup y) → News g L' h₁ sel → (∀ p ∈ sel, p.1 < L') →
      wpAny (model prog w) (A.deeper (envOf qual scope L' f cdv)) (execs body (envOf qual scope L' f cdv))
        (fun fl s' => R (.ok (.ret (match fl with | .ret v => v | _ => .none))) s')
        (fun e s' => wpAny (model prog w) (A.deeper (envOf qual scope L' f cdv)) (leaving (envOf qual scope L' f cdv) e) (fun _ s'' => R (.error e) s'') (fun e' s'' => R (.error e') s'') s')
        { s with heap := h₁, toks := tk })
    (hco : scope.isCoroutine = false) (hgen : scope.isGenerator = false) (hk : scope.kind = .function)
    (hcell : ∀ x ∈ scope.names, x.2 ≠ .cell) : codeAny (model prog w) A (.call (.ref f) args) R s := by
  refine codeAny_call_def (fd := fnOf name qual params body scope dV kV doc pm an cdv ct) (body := body) (binds := binds) hroom (hg _ _ (X _ _ ho)) rfl (T.nolimit.keeps hg) (codeRec_of (X.keeps hg) hcd) rfl hbind hcell hloc (fun h₁ hns hk₁ => ?_) hco hgen hk
  exact h s.heap.objs.size h₁ _ ⟨hns, fun b o e => hk₁ b o (hg b o e), hsz⟩ (fun p hp => ⟨hk₁ _ _ (hsel p hp).1, Nat.ne_of_lt (Heap.lt_size (hsel p hp).1), (hsel p hp).2⟩) (fun p hp => Heap.lt_size (hsel p hp).1)

theorem use_gc {w : World} {D U : Nat} {f : Addr} {args : List Value} {sel news oth : List (Addr × Obj)} {Post : Nat → Value → List (Addr × Obj) → Prop}
    (C : Con w D U f args sel Post)
    {dp un : Nat} {gd : Option (List Code)} {env : Env} {outer : List Env} {A₀ : Around} {base h₀ : Heap} {L : Addr} {m : Str → Option Value} {tp : Program} {tl : List Str} {mean : ExcName → Option Value} {mg mb : Str → Option Value} {s : Shared} {R : Result → Shared → Prop}
    (B : Below A₀ base outer h₀) (F : Fr h₀ L s.heap m) (X : (hd.heap_1 w.params).In h₀) (N : News h₀ L s.heap news) (T : Top tp tl mean mg mb h₀) (hf : env.frame = some L) (hke : env.scope.kind = .function)
    (hsel : ∀ p ∈ sel, p ∈ news) (hoth1 : ∀ p ∈ oth, p ∈ news) (hoth2 : ∀ p ∈ oth, ∀ q ∈ sel, p.1 ≠ q.1)
    (hd : dp + D < recursionLimit) (hu : un + U < cLine)
    (ret : ∀ v sel' h' tk', Fr h₀ L h' m → News h₀ L h' (sel' ++ oth) → (∀ p ∈ sel', ∀ q ∈ oth, p.1 ≠ q.1) → (∀ p ∈ news, p.1 < s.heap.objs.size) → Post s.heap.objs.size v sel' → R (.ok (.ret v)) { s with heap := h', toks := tk' }) :
    codeAny (model Challenge.rw_pe0259_01.row.prog w) (Ar dp un gd (env :: outer)) (.call (.ref f) ⟨args, []⟩) R s := by
  have hoth : ∀ p ∈ oth, p ∈ news ∧ p.1 ∉ sel.map Prod.fst := fun p hp => ⟨hoth1 p hp, fun q => by
    obtain ⟨r, hr, e⟩ := List.mem_map.mp q
    exact hoth2 p hp r hr e.symm⟩
  have nm : ∀ b o, h₀.get? b = some o → b ∉ sel.map Prod.fst := fun b o e q => by
    obtain ⟨p, hp, rfl⟩ := List.mem_map.mp q
    rw [(N p (hsel p hp)).2.2] at e; cases e
  have st : h₀.StaysIn (hideAll s.heap (sel.map Prod.fst)) := fun b o e => hideAll_get _ (F.keep b o e) (nm b o e)
  obtain ⟨oL, es, ep, hL, hLd, hLk, hLf⟩ := F.ns
  have nL : L ∉ sel.map Prod.fst := fun q => by
    obtain ⟨p, hp, e⟩ := List.mem_map.mp q
    exact (N p (hsel p hp)).2.1 e
  have hLg := hideAll_get (sel.map Prod.fst) hL nL
  have B₁ := pushX B F hf hke
  have B₂ : Below (Ar dp un gd (env :: outer)) base (env :: outer) (hideAll s.heap (sel.map Prod.fst)) := by
    refine ⟨rfl, fun b o e => st b o (B.stays b o e), funFrames_hideAll B₁.frames fun env' he b hb hf' => ?_⟩
    cases he with
    | head => exact nL ((Option.some.inj (hf.symm.trans hf') : L = b) ▸ hb)
    | tail _ he =>
      obtain ⟨L₁, o₁, hf₁, ho₁⟩ := funFrames_in B.frames env' he
      rw [hf₁] at hf'
      exact nm L₁ o₁ ho₁ ((Option.some.inj hf' : L₁ = b) ▸ hb)
  refine C dp un gd (env :: outer) base (hideAll s.heap (sel.map Prod.fst)) tp tl mean mg mb s _ B₂ (fun b o e => of_hideAll _ e) (Nat.le_of_eq (hideAll_size _ _))
    (fun p hp => ⟨(N p (hsel p hp)).1, hideAll_none _ (List.mem_map_of_mem hp)⟩) (X.keeps st) (T.keeps st) hd hu fun v sel' h' tk' k1 k2 k3 => ?_
  have hgo : ∀ p ∈ oth, (hideAll s.heap (sel.map Prod.fst)).get? p.1 = some p.2 := fun p hp => hideAll_get _ (N p (hoth p hp).1).1 (hoth p hp).2
  refine ret v sel' h' tk' ⟨⟨oL, es, ep, k1 L oL hLg, hLd, hLk, hLf⟩, fun b o e => k1 b o (st b o e), F.above⟩ (fun p hp => ?_) (fun p hp q hq e => ?_) (fun p hp => Heap.lt_size (N p hp).1) k3
  · rcases List.mem_append.mp hp with hp | hp
    · refine ⟨(k2 p hp).1, fun q => ?_, ?_⟩
      · have := (k2 p hp).2; rw [q, hLg] at this; cases this
      · cases q : h₀.get? p.1 with
        | none => rfl
        | some o => have := (k2 p hp).2; rw [st _ _ q] at this; cases this
    · exact ⟨k1 _ _ (hgo p hp), (N p (hoth p hp).1).2⟩
  · have := (k2 p hp).2
    rw [e, hgo q hq] at this; cases this

theorem use_g {w : World} {D U : Nat} {f : Addr} {args : List Value} {sel news oth : List (Addr × Obj)} {Post : Nat → Value → List (Addr × Obj) → Prop}
    (C : Con w D U f args sel Post)
    {dp un : Nat} {gd : Option (List Code)} {env : Env} {outer : List Env} {A₀ : Around} {base h₀ : Heap} {L : Addr} {m : Str → Option Value} {tp : Program} {tl : List Str} {mean : ExcName → Option Value} {mg mb : Str → Option Value} {s : Shared} {Q E : Value → Shared → Prop}
    (B : Below A₀ base outer h₀) (F : Fr h₀ L s.heap m) (X : (hd.heap_1 w.params).In h₀) (N : News h₀ L s.heap news) (T : Top tp tl mean mg mb h₀) (hf : env.frame = some L) (hke : env.scope.kind = .function)
    (hsel : ∀ p ∈ sel, p ∈ news) (hoth1 : ∀ p ∈ oth, p ∈ news) (hoth2 : ∀ p ∈ oth, ∀ q ∈ sel, p.1 ≠ q.1)
    (hd : dp + D < recursionLimit) (hu : un + U < cLine)
    (ret : ∀ v sel' h' tk', Fr h₀ L h' m → News h₀ L h' (sel' ++ oth) → (∀ p ∈ sel', ∀ q ∈ oth, p.1 ≠ q.1) → (∀ p ∈ news, p.1 < s.heap.objs.size) → Post s.heap.objs.size v sel' → Q v { s with heap := h', toks := tk' }) :
    wpAny (model Challenge.rw_pe0259_01.row.prog w) (Ar dp un gd (env :: outer)) (call (.ref f) args) Q E s :=
  wpAny_call (use_gc C B F X N T hf hke hsel hoth1 hoth2 hd hu ret)

theorem enter_gc {prog : Program} {w : World} {A : Around} {s : Shared} {g : Heap} {K : Frag} {p : Program} {loose : List Str} {mean : ExcName → Option Value} {mg mb : Str → Option Value} {sel : List (Addr × Obj)}
    {R : Result → Shared → Prop} {name qual : Str} {params : Arguments} {body : List Stmt} {scope : Scope} {dV kV doc pm cdv ct oc : Value} {an od : Option Addr} {osl : Array (Option Value)} {f : Addr} {args : Args} {binds : List (Str × Value)}
    (hg : g.StaysIn s.heap) (hsz : g.objs.size ≤ s.heap.objs.size) (hsel : ∀ p ∈ sel, s.heap.get? p.1 = some p.2 ∧ g.get? p.1 = none) (X : K.In g) (T : Top p loose mean mg mb g)
    (ho : K.lookup f = some ⟨oc, od, .func (fnOf name qual params body scope dV kV doc pm an cdv ct), osl⟩) (hcd : codeIn K cdv qual = true) (hroom : A.depth < recursionLimit)
    (hbind : BindsTo s (fnOf name qual params body scope dV kV doc pm an cdv ct) args binds) (hkind : (binds.all fun y => scope.names.lookup y.1 == some .local || scope.names.lookup y.1 == some .cell) = true)
    (hnd : ((cellsFrom 0 scope.names []).map Prod.fst).Nodup)
    (h : ∀ L' h₁ tk cells, Fr g L' h₁ (bindL (envOfC qual scope L' f cdv).kindOf binds fun _ => none) → News g L' h₁ (cells ++ sel) →
      CellsAre (bindC (envOfC qual scope L' f cdv).kindOf binds fun _ => none) (cellsFrom (L' + 1) scope.names []) cells → (∀ p ∈ sel, p.1 < L') →
      wpAny (model prog w) (A.deeper (envOfC qual scope L' f cdv)) (execs body (envOfC qual scope L' f cdv))
        (fun fl s' => R (.ok (.ret (match fl with | .ret v => v | _ => .none))) s')
        (fun e s' => wpAny (model prog w) (A.deeper (envOfC qual scope L' f cdv)) (leaving (envOfC qual scope L' f cdv) e) (fun _ s'' => R (.error e) s'') (fun e' s'' => R (.error e') s'') s')
        { s with heap := h₁, toks := tk })
    (hco : scope.isCoroutine = false) (hgen : scope.isGenerator = false) (hk : scope.kind = .function) : codeAny (model prog w) A (.call (.ref f) args) R s := by
  refine codeAny_call_function hroom (hg _ _ (X _ _ ho)) rfl hco hgen rfl (codeRec_of (X.keeps hg) hcd) (hbind _ _ _ _ ?_)
  refine wpAny_newFunctionEnv_cells hk (kindsX hkind _) fun env' he s' x => ?_
  subst he
  refine ⟨(T.nolimit.keeps hg).keeps x.toInCall.keep, codeAny_func ?_⟩
  obtain ⟨h₁, tk, rfl, _⟩ := x.done
  have hk₁ := x.toInCall.keep
  obtain ⟨cells, NC, Y⟩ := Cl.news (h₀ := s.heap) (Nat.le_refl _) fun n c hm => ⟨x.cell n c (lookup_of_mem_nodup (cellsFrom_names scope.names 0 (s.heap.objs.size + 1) [] [] rfl ▸ hnd) hm), x.above n c hm⟩
  refine h s.heap.objs.size h₁ tk cells ⟨x.toInCall.ns, fun b o e => hk₁ b o (hg b o e), hsz⟩ (fun p hp => ?_) Y (fun p hp => Heap.lt_size (hsel p hp).1)
  rcases List.mem_append.mp hp with hp | hp
  · refine ⟨(NC p hp).1, (NC p hp).2.1, ?_⟩
    cases q : g.get? p.1 with
    | none => rfl
    | some o => have := hg _ _ q; rw [(NC p hp).2.2] at this; cases this
  · exact ⟨hk₁ _ _ (hsel p hp).1, Nat.ne_of_lt (Heap.lt_size (hsel p hp).1), (hsel p hp).2⟩

theorem slot_fn_set : Slot "function" "__setattr__" "object.__setattr__" :=
  .of (owner := "object") (n := "__setattr__") (by rw [typeLookup_type, builtinLookup_eq_fast]; kernel_rfl) (by decide +kernel) (by decide +kernel) (by decide +kernel)
    (by first | exact .inl (by decide +kernel) | exact .inr (by decide +kernel)) (by rw [isSubtype_type]; kernel_rfl)
theorem slot_fn_gat : Slot "function" "__getattribute__" "object.__getattribute__" :=
  .of (owner := "object") (n := "__getattribute__") (by rw [typeLookup_type, builtinLookup_eq_fast]; kernel_rfl) (by decide +kernel) (by decide +kernel) (by decide +kernel)
    (by first | exact .inl (by decide +kernel) | exact .inr (by decide +kernel)) (by rw [isSubtype_type]; kernel_rfl)
theorem fn_read_none : typeLookup (.type "function") "read" = pure none := by rw [typeLookup_type, builtinLookup_eq_fast]; kernel_rfl
theorem fn_getattr_none : typeLookup (.type "function") "__getattr__" = pure none := by rw [typeLookup_type, builtinLookup_eq_fast]; kernel_rfl
theorem entry_gat : entryFor table "object.__getattribute__" = some Builtin.«object.__getattribute__» := entryFor_of_tree (by kernel_rfl)
theorem fn_mro : mroOf (.type "function") = pure [.type "function", .type "object"] := by kernel_rfl
theorem fn_passes (self : Value) : refuseLoop self "__setattr__" [.type "function", .type "object"] = pure () := by kernel_rfl

noncomputable abbrev withDict (o : Obj) (d : Addr) : Obj := { o with dict := some d }

section
open PySem.Builtin.ObjectAttr
variable {prog : Program} {w : World} {A : Around} {E : Value → Shared → Prop} {s : Shared} {h₀ : Heap} {L f : Addr} {m : Str → Option Value} {fd : FuncData} {sl : Array (Option Value)} {v : Value}

theorem fn_setattr {pre post : List (Addr × Obj)} {Q : Unit → Shared → Prop} (F : Fr h₀ L s.heap m) (N : News h₀ L s.heap (pre ++ (f, ⟨.type "function", none, .func fd, sl⟩) :: post))
    (h1 : ∀ p ∈ pre, p.1 ≠ f) (h2 : ∀ p ∈ post, p.1 ≠ f)
    (h : ∀ d h' tk, Fr h₀ L h' m → News h₀ L h' ((d, dictOf [⟨PyData.keyHash w.params "read", .str "read" tk, v⟩] 1) :: (pre ++ (f, ⟨.type "function", some d, .func fd, sl⟩) :: post)) →
      (∀ p ∈ pre ++ (f, (⟨.type "function", none, .func fd, sl⟩ : Obj)) :: post, p.1 < d) → Q () { s with heap := h', toks := tk + 1 }) :
    wpAny (model prog w) A (setAttr (.ref f) "read" v) Q E s := by
  have SF := PySem.F.store_object
  have hf := (N (f, _) (List.mem_append_right _ (.head _))).1
  have hT : ∀ k, Shared.TypeIs { s with toks := k } (.ref f) "function" := fun _ => ⟨_, hf, rfl⟩
  unfold setAttr
  refine wpAny_bind (wpAny_mkText (wpAny_bind (wpAny_callSpecial?_slot (hT _) slot_fn_set ?_)))
  refine wpAny_call_entry slot_fn_set (hT _) SF.entry ?_ (SF.args _ _ _)
  rw [osa_eq, refuse_eq]
  refine wpAny_bind (wpAny_bind (wpAny_typeOf (hT _) ?_))
  rw [fn_mro]
  refine wpAny_bind (wpAny_pure ?_)
  rw [fn_passes]
  refine wpAny_pure (wpAny_bind (wpAny_typeOf (hT _) ?_))
  rw [fn_read_none]
  refine wpAny_bind (wpAny_pure (wpAny_bind (wpAny_pure ?_)))
  show wpAny _ _ (storeInOwnDict _ _ _ _ _ _) _ _ _
  unfold storeInOwnDict
  refine wpAny_bind (wpAny_pure ?_)
  refine wpAny_bind ?_
  show wpAny _ _ (instanceDict f true) _ _ _
  unfold instanceDict
  refine wpAny_bind (wpAny_loadPart hf ?_)
  dsimp only
  rw [show typeHasDict (.type "function") = true from by decide +kernel]
  refine wpAny_bind (wpAny_alloc ?_)
  have hsz : f < s.heap.objs.size := Heap.lt_size hf
  have F1 := F.push { cls := .type "dict", data := .dict #[] }
  have N1 := N.push F { cls := .type "dict", data := .dict #[] }
  have lt1 : ∀ p ∈ pre ++ (f, (⟨.type "function", none, .func fd, sl⟩ : Obj)) :: post, p.1 < s.heap.objs.size := fun p hp => Heap.lt_size (N p hp).1
  have U := news_upd (d := f) (f := fun o => { o with dict := some s.heap.objs.size }) (pre := (s.heap.objs.size, { cls := .type "dict", data := .dict #[] }) :: pre) (post := post) F1 N1
    (fun p hp => by
      rcases List.mem_cons.mp hp with rfl | hp
      · exact Nat.ne_of_gt hsz
      · exact h1 p hp) h2 rfl rfl
  refine wpAny_bind (wpAny_update (N1 (f, ⟨.type "function", none, .func fd, sl⟩) (.tail _ (List.mem_append_right _ (.head _)))).1 ?_)
  obtain ⟨U1, U2⟩ := U
  have D := (U2 (s.heap.objs.size, _) (.head _)).1
  unfold dictMade
  dsimp only
  rw [show finalisedInACycleAlone "function" = false from by decide +kernel]
  refine wpAny_pure ?_
  show wpAny _ _ (storeInDict _ _ _ _) _ _ _
  unfold storeInDict
  refine wpAny_bind (wpAny_pure (wpAny_bind ?_))
  unfold nsSet
  refine wpAny_bind (wpAny_bind (wpAny_askSetting (wpAny_pure (wpAny_bind (wpAny_mkText (wpAny_bind (wpAny_loadPart D ?_)))))))
  dsimp only
  rw [show aRefKeyMayBeTheName "read" #[] = false from by decide +kernel]
  refine wpAny_updatePart D ?_
  have V := news_upd (d := s.heap.objs.size) (f := Obj.putName "read" (PyData.keyHash w.params "read") (.str "read" (s.toks + 1)) v) (pre := []) U1 U2 (fun _ hp => nomatch hp)
    (fun p hp => by
      rcases List.mem_append.mp hp with hp | hp
      · exact Nat.ne_of_lt (lt1 p (List.mem_append_left _ hp))
      · rcases List.mem_cons.mp hp with rfl | hp
        · exact Nat.ne_of_lt hsz
        · exact Nat.ne_of_lt (lt1 p (List.mem_append_right _ (.tail _ hp)))) (putName_dict _ _ _ _ [] 0) rfl
  obtain ⟨V1, V2⟩ := V
  have D' := (V2 (s.heap.objs.size, _) (.head _)).1
  refine wpAny_bind (wpAny_lookBehind D' (pastItsLine_dict (by rw [List.size_toArray, sizeLine_eq]; exact Nat.le_of_ble_eq_true rfl)) ?_)
  exact wpAny_pure ⟨_, rfl, wpAny_pure (h _ _ _ V1 V2 lt1)⟩

theorem gat_eq (self : Value) (name : Str) (tk : Tok) : Builtin.«object.__getattribute__» ⟨[self, .str name tk], []⟩ = (typeOf self >>= fun tp => find self tp name >>= fun r => match r with
    | .value v => ret v
    | .bind g a => bindTo g a self tp
    | .missing => do
      if tp == .type "module" then
        if ← isOpaqueModuleObj self then
          let byTheModulesOwnEntry := match (← stack).drop 1 with
            | (.builtin "module.__getattribute__" ⟨m :: _, _⟩, _) :: _ => m == self
            | _ => false
          if !byTheModulesOwnEntry then unsupported "thirdparty:object.__getattribute__:a-miss-on-an-opaque-module"
      if tp == .type "type" then
        if let some key ← opaqueClassAbove self then unsupported s!"thirdparty:{key.toString}.{name.toString}:object.__getattribute__-misses-on-an-opaque-class"
      noSuchAttribute self name) := by kernel_rfl

theorem fn_getattr {d : Addr} {n : Nat} {hs : Int} {tk : Tok} {expr : Bool} {Q : Value → Shared → Prop} (hf : s.heap.get? f = some ⟨.type "function", some d, .func fd, sl⟩)
    (hd : s.heap.get? d = some (dictOf [⟨hs, .str "read" tk, v⟩] n)) (hv : handedIn v = true) (h : Q v { s with toks := s.toks + 1 }) :
    wpAny (model prog w) A (getAttr (.ref f) "read" expr) Q E s := by
  have hT : ∀ k, Shared.TypeIs { s with toks := k } (.ref f) "function" := fun _ => ⟨_, hf, rfl⟩
  unfold getAttr
  refine wpAny_bind (wpAny_mkText ?_)
  unfold getAttrBy
  refine wpAny_holding (wpAny_bind (wpAny_typeOf (hT _) ?_))
  rw [slot_fn_gat.lookup]
  refine wpAny_bind (wpAny_pure ?_)
  show wpAny _ _ (getAttrByItsOwn _ _ _ _ _ _) _ _ _
  unfold getAttrByItsOwn
  refine wpAny_bind (wpAny_pure ?_)
  refine wpAny_bind (wpAny_attempt (wpAny_holding ?_))
  show wpAny _ _ (callGetattribute _ _ _ _) _ _ _
  unfold callGetattribute
  rw [show (expr && onTheHeap (.builtin "object.__getattribute__")) = false from by cases expr <;> rfl]
  show wpAny _ _ (boundAndCalled _ _ _) _ _ _
  unfold boundAndCalled
  rw [slot_fn_gat.bind]
  refine wpAny_bind (wpAny_pure ?_)
  refine wpAny_call_entry slot_fn_gat (hT _) entry_gat ?_
  show wpAny _ _ (Builtin.«object.__getattribute__» ⟨[.ref f, .str _ _], []⟩) _ _ _
  rw [gat_eq]
  refine wpAny_bind (wpAny_typeOf (hT _) (wpAny_bind ?_))
  unfold find
  rw [fn_read_none]
  refine wpAny_bind (wpAny_pure (wpAny_bind (wpAny_pure (wpAny_bind (wpAny_pure ?_)))))
  show wpAny _ _ (ownThenClass _ _ _ _) _ _ _
  unfold ownThenClass
  refine wpAny_bind ?_
  show wpAny _ _ (ObjectAttr.ownDict f >>= _) _ _ _
  unfold ObjectAttr.ownDict
  refine wpAny_bind (wpAny_bind (wpAny_loadPart hf ?_))
  show wpAny _ _ (instanceDict f false) _ _ _
  unfold instanceDict
  refine wpAny_bind (wpAny_loadPart hf ?_)
  refine wpAny_pure ?_
  show wpAny _ _ (nsGet d "read") _ _ _
  unfold nsGet
  refine wpAny_bind (wpAny_loadPart hd ?_)
  have e : nsLook "read" (dictOf [⟨hs, .str "read" tk, v⟩] n) = pure (some v) := by rfl
  rw [e]
  refine wpAny_pure (wpAny_bind (wpAny_rule (wpAny_pure (wpAny_pure ⟨v, rfl, ?_⟩))))
  show wpAny _ _ (handedOut v) _ _ _
  rw [handedOut_of hv]
  exact wpAny_pure h
theorem canon_gat : Manifest.canonical "object.__getattribute__" = "object.__getattribute__" := by decide +kernel
theorem fn_getmethod {d : Addr} {n : Nat} {hs : Int} {tk : Tok} {pl : Sem Bool} {Q : Value × List Value → Shared → Prop} (hf : s.heap.get? f = some ⟨.type "function", some d, .func fd, sl⟩)
    (hd : s.heap.get? d = some (dictOf [⟨hs, .str "read" tk, v⟩] n)) (hv : handedIn v = true) (h : Q (v, []) { s with toks := s.toks + 1 }) :
    wpAny (model prog w) A (getMethod (.ref f) "read" pl) Q E s := by
  have hT : s.TypeIs (.ref f) "function" := ⟨_, hf, rfl⟩
  unfold getMethod
  refine wpAny_bind (wpAny_specialOf hT slot_fn_gat.lookup ?_)
  dsimp only
  rw [canon_gat]
  simp only [bne_self_eq_false, Bool.false_eq_true, if_false]
  refine wpAny_bind (wpAny_specialOf hT fn_getattr_none ?_)
  simp only [Option.isSome_none, Bool.false_eq_true, if_false]
  refine wpAny_bind (wpAny_specialOf hT fn_read_none ?_)
  dsimp only
  exact wpAny_bind (fn_getattr hf hd hv (wpAny_pure h))
end


/-- entering a def that a call has made -/
theorem enter_m {prog : Program} {w : World} {A : Around} {s : Shared} {g : Heap} {p : Program} {loose : List Str} {mean : ExcName → Option Value} {mg mb : Str → Option Value} {sel : List (Addr × Obj)}
    {R : Result → Shared → Prop} {name qual : Str} {params : Arguments} {body : List Stmt} {scope : Scope} {cl : List (Str × Addr)} {dV kV doc pm ct : Value} {an : Option Addr} {fo oc : Obj} {vs : Array Value} {tq : Tok} {f c : Addr} {args : Args} {binds : List (Str × Value)}
    (hg : g.StaysIn s.heap) (hsz : g.objs.size ≤ s.heap.objs.size) (hsel : ∀ p ∈ sel, s.heap.get? p.1 = some p.2 ∧ g.get? p.1 = none) (T : Top p loose mean mg mb g)
    (hfo : (f, fo) ∈ sel) (hfd : fo.data = .func (fnX name qual params body scope cl dV kV doc pm an (.ref c) ct)) (hc : (c, oc) ∈ sel) (hcd : oc.data = .fields vs) (hvs : vs[1]? = some (.str qual tq)) (hroom : A.depth < recursionLimit)
    (hbind : BindsTo s (fnX name qual params body scope cl dV kV doc pm an (.ref c) ct) args binds) (hloc : ∀ y ∈ binds, scope.names.lookup y.1 = some .local)
    (h : ∀ L' h₁ tk, Fr g L' h₁ (fun y => binds.reverse.lookup y) → News g L' h₁ sel → (∀ p ∈ sel, p.1 < L') →
      wpAny (model prog w) (A.deeper (envX qual scope L' f (.ref c) cl)) (execs body (envX qual scope L' f (.ref c) cl))
        (fun fl s' => R (.ok (.ret (match fl with | .ret v => v | _ => .none))) s')
        (fun e s' => wpAny (model prog w) (A.deeper (envX qual scope L' f (.ref c) cl)) (leaving (envX qual scope L' f (.ref c) cl) e) (fun _ s'' => R (.error e) s'') (fun e' s'' => R (.error e') s'') s')
        { s with heap := h₁, toks := tk })
    (hco : scope.isCoroutine = false) (hgen : scope.isGenerator = false) (hk : scope.kind = .function)
    (hcell : ∀ x ∈ scope.names, x.2 ≠ .cell) : codeAny (model prog w) A (.call (.ref f) args) R s := by
  refine codeAny_call_def (fd := fnX name qual params body scope cl dV kV doc pm an (.ref c) ct) (body := body) (binds := binds) hroom (hsel _ hfo).1 hfd (T.nolimit.keeps hg) ⟨c, oc, vs, tq, rfl, (hsel _ hc).1, hcd, hvs⟩ rfl hbind hcell hloc (fun h₁ hns hk₁ => ?_) hco hgen hk
  exact h s.heap.objs.size h₁ _ ⟨hns, fun b o e => hk₁ b o (hg b o e), hsz⟩ (fun p hp => ⟨hk₁ _ _ (hsel p hp).1, Nat.ne_of_lt (Heap.lt_size (hsel p hp).1), (hsel p hp).2⟩) (fun p hp => Heap.lt_size (hsel p hp).1)

/-- the parts of the def that stands at place i of a def's body -/
noncomputable def nestedDef (o : Option Obj) (i : Nat) : Option (Arguments × List Stmt × Scope) := match o with
  | some ⟨_, _, .func fd, _⟩ => (match fd.body with
    | .stmts b => (match b[i]? with
      | some (.FunctionDef _ args body _ _ _ scope _ _ _) => some (args, body, scope)
      | _ => none)
    | _ => none)
  | _ => none
theorem nested_out {K : Frag} {f : Addr} {o : Obj} {i : Nat} {x : Option (Arguments × List Stmt × Scope)} {P : Prop} (hl : K.lookup f = some o) (h : nestedDef (K.lookup f) i = x) (k : nestedDef (some o) i = x → P) : P := k (hl ▸ h)

local macro_rules | `(tactic| k_room) => `(tactic| ((try simp only [depth_under_make, depth_under_kw, depth_in1, depth_deeper, depth_caller]); (try dsimp only); (first | exact room0 (by assumption) | exact room1 (by assumption) rfl | exact room2 (by assumption) rfl | exact room3 (by assumption) rfl | exact room4 (by assumption) rfl | omega)))
local macro_rules | `(tactic| k_units) => `(tactic| ((try simp only [units_in1, units_deeper, Around.mark_units, units_caller]); (try dsimp only); (first | exact room0 (by assumption) | exact room1 (by assumption) rfl | exact room2 (by assumption) rfl | exact room3 (by assumption) rfl | exact room4 (by assumption) rfl | omega)))
local macro_rules | `(tactic| k_all) => `(tactic| assumption)
local macro_rules | `(tactic| k_ne) => `(tactic| (refine neN ?_; (try dsimp only); (first | (refine Nat.ne_of_gt ?_; with_reducible ((repeat (first | assumption | exact And.left (by assumption) | exact And.left (And.right (by assumption)) | exact And.right (And.right (by assumption)) | exact And.right (by assumption) | exact And.left (And.right (And.right (by assumption))) | exact And.right (And.right (And.right (by assumption))) | exact And.left (And.right (And.right (And.right (by assumption)))) | exact And.left (And.right (And.right (And.right (And.right (by assumption))))) | refine Nat.lt_trans ?_ (by assumption))); done)) | (refine Nat.ne_of_lt ?_; with_reducible ((repeat (first | assumption | exact And.left (by assumption) | exact And.left (And.right (by assumption)) | exact And.right (And.right (by assumption)) | exact And.right (by assumption) | exact And.left (And.right (And.right (by assumption))) | exact And.right (And.right (And.right (by assumption))) | exact And.left (And.right (And.right (And.right (by assumption)))) | exact And.left (And.right (And.right (And.right (And.right (by assumption))))) | refine Nat.lt_trans ?_ (by assumption))); done)) | exact Nat.ne_of_gt (Nat.lt_succ_self _) | exact Nat.ne_of_lt (Nat.lt_succ_self _))))
local macro_rules | `(tactic| k_ne) => `(tactic| first | assumption | (refine Ne.symm ?_; assumption))
noncomputable def FnAt (rd : Addr) (h : Heap) : Prop := ∃ o fd, h.get? rd = some o ∧ o.data = .func fd
theorem keeps_fn {M : Model} {rd : Addr} (h : Heap) (X : FnAt rd h) : ∃ k, (k = Keeper.frame ∨ k = Keeper.machine ∨ k = Keeper.boundFrame) ∧ Looks M h (keeperOf (.ref rd)) k := by
  obtain ⟨o, fd, e1, e2⟩ := X
  refine ⟨.frame, .inl rfl, (Looks.ld (part := none) e1).andThen ?_⟩
  rw [e2]; exact .now
theorem callWith_fn {M : Model} {A : Around} {E : Value → Shared → Prop} {s : Shared} {env : Env} {pos : Pos} {first : List Value} {Q : Value → Shared → Prop} {rd : Addr} {e : Expr} {rest : List Expr}
    (h : wpAny M A (spliced (backTo pos (starEach (e :: rest) env))) (fun vs s₁ => FnAt rd s₁.heap ∧ wpAny M A (call (.ref rd) (first ++ vs)) Q E s₁) E s)
    (he : starEach (e :: rest) env = (false, eval e env) :: starEach rest env := by rfl) (hplain : (backTo pos (starEach rest env)).any (·.1) = false := by rfl) :
    wpAny M A (callWith pos (.ref rd) first (backTo pos (starEach (e :: rest) env)) []) Q E s := by
  rw [he] at h ⊢
  exact callWith_of (by show ((false || (backTo pos (starEach rest env)).any (·.1)) || false) = false; rw [hplain]; rfl) (keeps_fn) (evalArgs_plain h)

/-- the one sign at place p, the empty text behind the end -/
noncomputable def signAt (x : Str) (p : Nat) : Str := ⟨x.cps.extract p (p + 1)⟩

structure Reader (w : World) (rd : Addr) (text : Str) (adr : List Addr) (RO : Nat → List (Addr × Obj) → Prop) : Prop where
  adrs : ∀ p l, RO p l → l.map Prod.fst = adr
  fn : ∀ p l, RO p l → ∃ o fd, (rd, o) ∈ l ∧ o.data = .func fd
  read : ∀ p l t, RO p l → Con w 2 20 rd [.int 1 t] l (fun _ v l' => RO (min (p + 1) text.length) l' ∧ ∃ t', v = .str (signAt text p) t')

structure LexA where
  x : Addr
  dx : Addr
  pb : Addr
  st : Addr
  std : Addr
  rd : Addr
  t1 : Tok
  t2 : Tok
  t3 : Tok
  t4 : Tok
  td : Tok
  fd : FuncData
  sl : Array (Option Value)

noncomputable abbrev lexDict (w : World) (a : LexA) (lin : Value) (wsp : Value) : Obj := dictOf [⟨PyData.keyHash w.params "lineno", .str "lineno" a.t1, lin⟩, ⟨PyData.keyHash w.params "instream", .str "instream" a.t2, .ref a.st⟩, ⟨PyData.keyHash w.params "whitespace", .str "whitespace" a.t3, wsp⟩, ⟨PyData.keyHash w.params "pushback", .str "pushback" a.t4, .ref a.pb⟩] 4
noncomputable abbrev lexObjs (w : World) (a : LexA) (lin wsp : Value) (items : List Value) (k : Nat) : List (Addr × Obj) :=
  [(a.x, instObj 101 a.dx), (a.dx, lexDict w a lin wsp), (a.pb, listOf items.toArray k), (a.st, ⟨.type "function", some a.std, .func a.fd, a.sl⟩), (a.std, dictOf [⟨PyData.keyHash w.params "read", .str "read" a.td, .ref a.rd⟩] 1)]

structure LexA.Ok (a : LexA) (adr : List Addr) : Prop where
  n1 : a.x ≠ a.dx
  n2 : a.x ≠ a.pb
  n3 : a.dx ≠ a.pb
  n4 : a.st ≠ a.dx
  n5 : a.st ≠ a.pb
  n6 : a.std ≠ a.dx
  n7 : a.std ≠ a.pb
  m1 : a.x ∉ adr
  m2 : a.dx ∉ adr
  m3 : a.pb ∉ adr
  m4 : a.st ∉ adr
  m5 : a.std ∉ adr

theorem not_adr {l : List (Addr × Obj)} {adr : List Addr} {d : Addr} (h : l.map Prod.fst = adr) (hd : d ∉ adr) : ∀ p ∈ l, p.1 ≠ d := fun p hp e => hd (h ▸ e ▸ List.mem_map_of_mem hp)

theorem read_char_c (w : World) (a : LexA) (text : Str) (adr : List Addr) (RO : Nat → List (Addr × Obj) → Prop) (Rd : Reader w a.rd text adr RO) (O : a.Ok adr)
    (lin : Int) (lt : Tok) (wsp : Value) (items : List Value) (k : Nat) (p : Nat) (l : List (Addr × Obj)) (hl : RO p l) :
   Con w 4 40 84 [.ref a.x] (lexObjs w a (.int lin lt) wsp items k ++ l)
     (fun _ v sel' => ∃ t lt' l', v = .str (signAt text p) t ∧ RO (min (p + 1) text.length) l' ∧
       sel' = lexObjs w a (.int (if signAt text p == "\n" then lin + 1 else lin) lt') wsp items k ++ l') := by
  unfold Con
  k_fill
  intro dp un gd outer base g tp tl mean mg mb s R B hg hsz hsel X T hd hu ret
  refine' enter_g B hg hsz hsel X T ?k6 ?k7 ?k8 ?k9 ?kB ?_ ?c2 ?c3 ?c4 ?c5
  (case k6 => k_is); (case k7 => k_is); (case k8 => ktr_room); (case k9 => exact BindsTo.of_eq rfl); (case c5 => decide); (case kB => exact locs rfl); (case c2 => exact rfl); (case c3 => exact rfl); (case c4 => exact rfl)
  k_whole
  intro L' h' tk' F' N' l1
  simp only [lexObjs, List.cons_append, List.nil_append] at N'
  obtain ⟨n1, n2, n3, n4, n5, n6, n7, q1, q2, q3, q4, q5⟩ := O
  have m1 := not_adr (Rd.adrs p l hl) q1
  have m2 := not_adr (Rd.adrs p l hl) q2
  have m3 := not_adr (Rd.adrs p l hl) q3
  have m4 := not_adr (Rd.adrs p l hl) q4
  have m5 := not_adr (Rd.adrs p l hl) q5
  (try dsimp only); (try k_fold)
  ((repeat' ((fail_if_success (with_reducible show wpAny _ _ (getMethod (Value.ref a.st) _ _) _ _ _)); (first | (k_unfold; (try dsimp only)) | ((with_reducible first | show wpAny _ _ (exec _ _) _ _ _ | show wpAny _ _ (execs _ _) _ _ _); k_fold) | (k_end; wrow_close) | walk1 | (dsimp only; walk1) | (leave1; (try dsimp only))))) <;> (repeat (k_unfold; (try dsimp only))))
  rename News _ _ _ _ => N1
  refine fn_getmethod (N1 (a.st, _) (by k_mem)).1 (N1 (a.std, _) (by k_mem)).1 rfl ?_
  (try dsimp only)
  refine callWith_fn ?_
  ((repeat' ((fail_if_success (with_reducible show FnAt _ _ ∧ _)); (first | (k_unfold; (try dsimp only)) | ((with_reducible first | show wpAny _ _ (exec _ _) _ _ _ | show wpAny _ _ (execs _ _) _ _ _); k_fold) | (k_end; wrow_close) | walk1 | (dsimp only; walk1) | (leave1; (try dsimp only))))) <;> (repeat (k_unfold; (try dsimp only))))
  obtain ⟨o9, fd9, hm9, hf9⟩ := Rd.fn p l hl
  refine ⟨⟨o9, fd9, (N1 (a.rd, o9) (by iterate 5 (refine List.Mem.tail _ ?_)
                                       exact hm9)).1, hf9⟩, ?_⟩
  refine use_g (Rd.read p l _ hl) (oth := lexObjs w a (.int lin lt) wsp items k) B (by assumption) X N1 T rfl rfl (fun p hp => ?_) ?_ ?_ ?_ ?_ ?_
  · iterate 5 (refine List.Mem.tail _ ?_)
    exact hp
  · exact List.forall_mem_cons.mpr ⟨by k_mem, List.forall_mem_cons.mpr ⟨by k_mem, List.forall_mem_cons.mpr ⟨by k_mem, List.forall_mem_cons.mpr ⟨by k_mem, List.forall_mem_cons.mpr ⟨by k_mem, List.forall_mem_nil _⟩⟩⟩⟩⟩
  · exact List.forall_mem_cons.mpr ⟨fun q hq e => m1 q hq e.symm, List.forall_mem_cons.mpr ⟨fun q hq e => m2 q hq e.symm, List.forall_mem_cons.mpr ⟨fun q hq e => m3 q hq e.symm, List.forall_mem_cons.mpr ⟨fun q hq e => m4 q hq e.symm, List.forall_mem_cons.mpr ⟨fun q hq e => m5 q hq e.symm, List.forall_mem_nil _⟩⟩⟩⟩⟩
  · k_room
  · k_units
  rintro v l2 h2 tk2 F2 N2 - - ⟨hl2, t2, rfl⟩
  replace N2 : News g L' h2 (lexObjs w a (.int lin lt) wsp items k ++ l2) := fun p hp => N2 p (List.mem_append.mpr (List.mem_append.mp hp).symm)
  simp only [lexObjs, List.cons_append, List.nil_append] at N2
  have m1 := not_adr (Rd.adrs _ l2 hl2) q1
  have m2 := not_adr (Rd.adrs _ l2 hl2) q2
  have m3 := not_adr (Rd.adrs _ l2 hl2) q3
  have m4 := not_adr (Rd.adrs _ l2 hl2) q4
  have m5 := not_adr (Rd.adrs _ l2 hl2) q5
  (try dsimp only); (try k_fold)
  ((repeat' (first | (k_unfold; (try dsimp only)) | ((with_reducible first | show wpAny _ _ (exec _ _) _ _ _ | show wpAny _ _ (execs _ _) _ _ _); k_fold) | (k_end; wrow_close) | walk1 | (dsimp only; walk1) | (leave1; (try dsimp only)))) <;> (repeat (k_unfold; (try dsimp only))))
  all_goals (
    (try dsimp only)
    rename Fr _ _ _ _ => F3
    rename News _ _ _ _ => N3
    refine ret _ _ _ _ F3.keep (fun p hp => ⟨(N3 p hp).1, (N3 p hp).2.2⟩) ?_
    rename ((_ == _) = _) => hb
    refine ⟨_, ?_, l2, rfl, hl2, ?_⟩
    rotate_left
    rw [hb]
    exact rfl)
theorem StrsAre.cons_inv {vs : List Value} {y : Str} {ys : List Str} (h : StrsAre vs (y :: ys)) : ∃ t vs', vs = .str y t :: vs' ∧ StrsAre vs' ys := by
  cases h with
  | cons _ _ h => exact ⟨_, _, rfl, h⟩

noncomputable def MachSt (w : World) (a : LexA) (RO : Nat → List (Addr × Obj) → Prop) (lin : Int) (wsp : Str) (ws : List Str) (p : Nat) (blk : List (Addr × Obj)) : Prop :=
  ∃ lt tw k l items, RO p l ∧ StrsAre items ws ∧ blk = lexObjs w a (.int lin lt) (.str wsp tw) items k ++ l

theorem MachSt.adrs {w : World} {a : LexA} {text : Str} {adr : List Addr} {RO : Nat → List (Addr × Obj) → Prop} {lin : Int} {wsp : Str} {ws : List Str} {p : Nat} {blk : List (Addr × Obj)}
    (M : MachSt w a RO lin wsp ws p blk) (Rd : Reader w a.rd text adr RO) : blk.map Prod.fst = [a.x, a.dx, a.pb, a.st, a.std] ++ adr := by
  obtain ⟨lt, tw, k, l, items, hl, hi, rfl⟩ := M
  simp only [lexObjs, List.map_append, List.map_cons, List.map_nil, Rd.adrs p l hl]

theorem push_token_c (w : World) (a : LexA) (text : Str) (adr : List Addr) (RO : Nat → List (Addr × Obj) → Prop) (Rd : Reader w a.rd text adr RO) (O : a.Ok adr)
    (lin : Int) (wsp : Str) (ws : List Str) (p : Nat) (blk : List (Addr × Obj)) (M : MachSt w a RO lin wsp ws p blk) (y : Str) (t : Tok) (hlen : ws.length < 10000) :
   Con w 4 40 98 [.ref a.x, .str y t] blk (fun _ v blk' => v = .none ∧ MachSt w a RO lin wsp (ws ++ [y]) p blk') := by
  obtain ⟨lt, tw, k, l, items, hl, hi, rfl⟩ := M
  have hlen2 : items.length < 10000 := hi.length ▸ hlen
  unfold Con
  k_fill
  intro dp un gd outer base g tp tl mean mg mb s R B hg hsz hsel X T hd hu ret
  refine' enter_g B hg hsz hsel X T ?k6 ?k7 ?k8 ?k9 ?kB ?_ ?c2 ?c3 ?c4 ?c5
  (case k6 => k_is); (case k7 => k_is); (case k8 => ktr_room); (case k9 => exact BindsTo.of_eq rfl); (case c5 => decide); (case kB => exact locs rfl); (case c2 => exact rfl); (case c3 => exact rfl); (case c4 => exact rfl)
  k_whole
  intro L' h' tk' F' N' l1
  simp only [lexObjs, List.cons_append, List.nil_append] at N'
  obtain ⟨n1, n2, n3, n4, n5, n6, n7, q1, q2, q3, q4, q5⟩ := O
  have m3 := not_adr (Rd.adrs p l hl) q3
  (try dsimp only); (try k_fold)
  ((repeat' (first | (k_unfold; (try dsimp only)) | ((with_reducible first | show wpAny _ _ (exec _ _) _ _ _ | show wpAny _ _ (execs _ _) _ _ _); k_fold) | (k_end; wrow_close) | walk1 | (dsimp only; walk1) | (leave1; (try dsimp only)))) <;> (repeat (k_unfold; (try dsimp only))))
  (try dsimp only)
  rename Fr _ _ _ _ => F3
  rename News _ _ _ _ => N3
  refine ret _ _ _ _ F3.keep (fun p hp => ⟨(N3 p hp).1, (N3 p hp).2.2⟩) ⟨rfl, lt, tw, k + 1, l, items ++ [.str y t], hl, kct_snoc hi, ?_⟩
  simp only [lexObjs, List.cons_append, List.nil_append, List.push_toArray]

theorem get_token_1 (w : World) (a : LexA) (text : Str) (adr : List Addr) (RO : Nat → List (Addr × Obj) → Prop) (Rd : Reader w a.rd text adr RO) (O : a.Ok adr)
    (lin : Int) (wsp : Str) (y : Str) (ws : List Str) (p : Nat) (blk : List (Addr × Obj)) (M : MachSt w a RO lin wsp (y :: ws) p blk) (hlen : ws.length < 10000) :
   Con w 4 40 91 [.ref a.x] blk (fun _ v blk' => (∃ t, v = .str y t) ∧ MachSt w a RO lin wsp ws p blk') := by
  obtain ⟨lt, tw, k, l, items, hl, hi, rfl⟩ := M
  obtain ⟨ty, items, rfl, hi2⟩ := StrsAre.cons_inv hi
  have hlen2 : items.length < 10000 := hi2.length ▸ hlen
  unfold Con
  k_fill
  intro dp un gd outer base g tp tl mean mg mb s R B hg hsz hsel X T hd hu ret
  refine' enter_g B hg hsz hsel X T ?k6 ?k7 ?k8 ?k9 ?kB ?_ ?c2 ?c3 ?c4 ?c5
  (case k6 => k_is); (case k7 => k_is); (case k8 => ktr_room); (case k9 => exact BindsTo.of_eq rfl); (case c5 => decide); (case kB => exact locs rfl); (case c2 => exact rfl); (case c3 => exact rfl); (case c4 => exact rfl)
  k_whole
  intro L' h' tk' F' N' l1
  simp only [lexObjs, List.cons_append, List.nil_append] at N'
  obtain ⟨n1, n2, n3, n4, n5, n6, n7, q1, q2, q3, q4, q5⟩ := O
  have m3 := not_adr (Rd.adrs p l hl) q3
  (try dsimp only); (try k_fold)
  ((repeat' ((fail_if_success (with_reducible show wpAny _ _ (truthy (Value.ref a.pb)) _ _ _)); (first | (k_unfold; (try dsimp only)) | ((with_reducible first | show wpAny _ _ (exec _ _) _ _ _ | show wpAny _ _ (execs _ _) _ _ _); k_fold) | (k_end; wrow_close) | walk1 | (dsimp only; walk1) | (leave1; (try dsimp only))))) <;> (repeat (k_unfold; (try dsimp only))))
  rename News _ _ _ _ => N1
  refine wpAny_truthy_list (News.isList N1 (by k_mem)) (by simp only [List.size_toArray, List.length_cons]; omega) ?_
  rw [show (!(Value.str y ty :: items).toArray.isEmpty) = true from by simp]
  ((repeat' ((fail_if_success (with_reducible show wpAny _ _ (call (Value.builtin "list.pop") _) _ _ _)); (first | (k_unfold; (try dsimp only)) | ((with_reducible first | show wpAny _ _ (exec _ _) _ _ _ | show wpAny _ _ (execs _ _) _ _ _); k_fold) | (k_end; wrow_close) | walk1 | (dsimp only; walk1) | (leave1; (try dsimp only))))) <;> (repeat (k_unfold; (try dsimp only))))
  rename Fr _ _ _ _ => F2
  rename News _ _ _ _ => N2
  refine' kl_popAt (its := (Value.str y ty :: items).toArray) (k := 0) (p := []) (q := items) (y := .str y ty) (n := k) F2 N2 ?f ?k ?e ?U ?z ?_
  (case f => rfl)
  (case k => simp [seqIndex?])
  (case e => rfl)
  (case U => k_upd)
  (case z => show (Value.str y ty :: items).length ≤ sizeLine; rw [sizeLine_eq, List.length_cons]; omega)
  intro h3 F3 N3
  (try dsimp only [List.nil_append, List.cons_append] at N3)
  clear F2 N2
  ((repeat' (first | (k_unfold; (try dsimp only)) | ((with_reducible first | show wpAny _ _ (exec _ _) _ _ _ | show wpAny _ _ (execs _ _) _ _ _); k_fold) | (k_end; wrow_close) | walk1 | (dsimp only; walk1) | (leave1; (try dsimp only)))) <;> (repeat (k_unfold; (try dsimp only))))
  (try dsimp only)
  refine ret _ _ _ _ F3.keep (fun p hp => ⟨(N3 p hp).1, (N3 p hp).2.2⟩) ⟨⟨_, rfl⟩, lt, tw, k + 1, l, items, hl, hi2, rfl⟩

theorem slot_cit_next : Slot "callable_iterator" "__next__" "callable_iterator.__next__" :=
  .of (owner := "callable_iterator") (n := "__next__") (by rw [typeLookup_type, builtinLookup_eq_fast]; kernel_rfl) (by decide +kernel) (by decide +kernel) (by decide +kernel)
    (by first | exact .inl (by decide +kernel) | exact .inr (by decide +kernel)) (by rw [isSubtype_type]; kernel_rfl)
theorem slot_cit_iter : Slot "callable_iterator" "__iter__" "callable_iterator.__iter__" :=
  .of (owner := "callable_iterator") (n := "__iter__") (by rw [typeLookup_type, builtinLookup_eq_fast]; kernel_rfl) (by decide +kernel) (by decide +kernel) (by decide +kernel)
    (by first | exact .inl (by decide +kernel) | exact .inr (by decide +kernel)) (by rw [isSubtype_type]; kernel_rfl)
theorem entry_cit_next : entryFor table "callable_iterator.__next__" = some Builtin.«callable_iterator.__next__» := entryFor_of_tree (by kernel_rfl)
theorem entry_cit_iter : entryFor table "callable_iterator.__iter__" = some Builtin.«dict_keyiterator.__iter__» :=
  entryFor_alias (id' := "dict_keyiterator.__iter__") (by kernel_rfl) rfl (by decide +kernel) (by kernel_rfl)
theorem args_cit_next (a : Value) : argsOk "callable_iterator.__next__" ⟨[a], []⟩ := by unfold argsOk; kernel_rfl
theorem args_cit_iter (a : Value) : argsOk "callable_iterator.__iter__" ⟨[a], []⟩ := by unfold argsOk; kernel_rfl
theorem kind_iter : builtinKind "iter" = none := by decide +kernel
theorem plain_iter : plainId "iter" = true := by decide +kernel
theorem entry_iter : entryFor table "iter" = some Builtin.«iter» := entryFor_of_tree (by kernel_rfl)
theorem args_iter2 (a b : Value) : argsOk "iter" ⟨[a, b], []⟩ := by unfold argsOk; kernel_rfl
theorem method_call_some : typeLookup (.type "method") "__call__" = pure (some (.builtin "method.__call__")) := by rw [typeLookup_type, builtinLookup_eq_fast]; kernel_rfl

noncomputable abbrev citObj (q : Addr) (t : Tok) : Obj := { cls := .type "callable_iterator", data := .fields #[.ref q, .str "" t, .bool false] }
noncomputable abbrev citEnd : Obj := { cls := .type "callable_iterator", data := .fields #[.none, .none, .bool true] }

section
variable {prog : Program} {w : World} {A : Around} {E : Value → Shared → Prop} {s : Shared} {h₀ : Heap} {L : Addr} {m : Str → Option Value}

theorem wpAny_callBorrowed {M : Model} {f : Value} {pos : List Value} {Q : Value → Shared → Prop}
    (hc : codeAny M A (.call f ⟨pos, []⟩) (fun r s' => match r with | .ok (.ret v) => Q v s' | .ok _ => False | .error e => E e s') s) :
    wpAny M A (callBorrowed f pos) Q E s := fun Γ p hΓ => by
  refine wpCode_mono (fun r s' h => ?_) (hc _ p rfl (hΓ.enter _ none p (by intro x; cases x)))
  cases r with
  | error e => exact h
  | ok f => cases f <;> first | exact h | exact h.elim

theorem pyIter_cit {it : Addr} {o : Obj} {Q : Value → Shared → Prop} (ho : s.heap.get? it = some o) (hc : o.cls = .type "callable_iterator") (h : Q (.ref it) s) : wpAny (model prog w) A (pyIter (.ref it)) Q E s := by
  have hT : s.TypeIs (.ref it) "callable_iterator" := ⟨o, ho, hc⟩
  refine wpAny_pyIter_slot hT slot_cit_iter (wpAny_call_entry slot_cit_iter hT entry_cit_iter ?_ (args_cit_iter _))
  show wpAny _ _ (ret (.ref it)) _ _ s
  exact wpAny_pure ⟨_, rfl, "callable_iterator", _, hT, slot_cit_next.lookup, h⟩

theorem iter2 {q f : Addr} {self : Value} {t : Tok} {news : List (Addr × Obj)} {Q : Value → Shared → Prop} (F : Fr h₀ L s.heap m) (N : News h₀ L s.heap news) (hq : (q, methodObj (.ref f) self) ∈ news)
    (h : ∀ it t' h', Fr h₀ L h' m → News h₀ L h' ((it, citObj q t') :: news) → (∀ p ∈ news, p.1 < it) → Q (.ref it) { s with heap := h' }) :
    wpAny (model prog w) A (call (.builtin "iter") [.ref q, .str "" t]) Q E s := by
  refine Calls.call_function_entry kind_iter plain_iter entry_iter (args_iter2 _ _) ?_
  have hT : s.TypeIs (.ref q) "method" := ⟨_, (N _ hq).1, rfl⟩
  show wpAny _ _ (specialOf (.ref q) "__call__" >>= _) _ _ s
  refine wpAny_bind (wpAny_specialOf hT method_call_some ?_)
  show wpAny _ _ (rule "iter.sentinel" >>= _) _ _ s
  refine wpAny_bind (wpAny_rule (wpAny_bind (wpAny_newObj_type (wpAny_pure ⟨_, rfl, ?_⟩))))
  exact h _ _ _ (F.push _) (N.push F _) fun p hp => Heap.lt_size (N p hp).1

theorem borrows_meth {q f : Addr} {self : Value} {o : Obj} {fd : FuncData} {Q : Bool → Shared → Prop} (hq : s.heap.get? q = some (methodObj (.ref f) self)) (hf : s.heap.get? f = some o) (hd : o.data = .func fd) (h : Q true s) :
    wpAny (model prog w) A (borrowsExactly (.ref q)) Q E s := by
  unfold borrowsExactly
  refine wpAny_bind (wpAny_load hq ?_)
  show wpAny _ _ (load f >>= _) _ _ _
  refine wpAny_bind (wpAny_load hf ?_)
  rw [hd]
  exact wpAny_pure h

/-- the turn of an ended one -/
theorem stop_raise {α : Type} {A : Around} (hh : A.handled = none) {Q : α → Shared → Prop} {P : Option Value → Shared → Prop}
    (hP : ∀ h', (∀ b o, s.heap.get? b = some o → h'.get? b = some o) → P none { s with heap := h' }) :
    wpAny (model prog w) A (SmallTypes.stopIteration : Sem α) Q
      (fun e s' => wpAny (model prog w) A (do if ← isInstance e (.type "StopIteration") then pure none else throw e) P E s') s := by
  show wpAny _ _ (newExc (.type "StopIteration") [] >>= _) _ _ _
  refine wpAny_bind ?_
  simp only [newExc, newTuple]
  refine wpAny_bind (wpAny_newObj_type ?_ (by size_fits))
  refine wpAny_bind (m := firstArgMember _ _) (wpAny_of_eq (a := Value.none) (by first | rfl | (simp only [firstArgMember]; rfl)) ?_)
  refine wpAny_newObj_type ?_ (by size_fits)
  simp only [raiseNew]
  refine wpAny_bind (wpAny_handled ?_)
  rw [hh]
  refine wpAny_bind (wpAny_pure (wpAny_throw ?_))
  refine wpAny_bind (wpAny_isInstance (T := "StopIteration") (b := true) ⟨_, Heap.get?_push_size _ rfl, rfl⟩ isSubtype_stop ?_)
  exact wpAny_pure (hP _ fun b o e => Heap.get?_push_of_some _ (Heap.get?_push_of_some _ e))

/-- the number of line ends ahead of place p -/
noncomputable def nlTo (x : Str) (p : Nat) : Int := ((x.cps.toList.take p).count 10 : Nat)
theorem signAt_lt {x : Str} {p : Nat} (h : p < x.cps.toList.length) : signAt x p = ⟨#[x.cps.toList[p]]⟩ := by
  unfold signAt
  congr 1
  apply Array.ext'
  simp [Array.toList_extract, List.take_one, List.head?_drop, List.getElem?_eq_getElem h]
theorem signAt_ge {x : Str} {p : Nat} (h : x.cps.toList.length ≤ p) : signAt x p = ⟨#[]⟩ := by
  unfold signAt
  congr 1
  apply Array.ext'
  simp [Array.toList_extract, List.drop_eq_nil_of_le h]
theorem len_cps (x : Str) : x.length = x.cps.toList.length := by show x.cps.size = _; simp
theorem beq_nl (c : Nat) : ((⟨#[c]⟩ : Str) == ("\n" : Str)) = (c == 10) := by
  have e : ("\n" : Str) = ⟨#[10]⟩ := by decide +kernel
  rw [e]
  by_cases h : c = 10
  · subst h; decide +kernel
  · have : (⟨#[c]⟩ : Str) ≠ ⟨#[10]⟩ := fun q => h (by injection q with q; simpa using q)
    rw [beq_eq_false_iff_ne.mpr this, beq_eq_false_iff_ne.mpr h]
theorem nlTo_succ {x : Str} {p : Nat} (h : p < x.length) : nlTo x (p + 1) = if signAt x p == "\n" then nlTo x p + 1 else nlTo x p := by
  rw [len_cps] at h
  rw [signAt_lt h, beq_nl]
  unfold nlTo
  rw [List.take_add_one, List.getElem?_eq_getElem h, List.count_append]
  simp only [Option.toList, List.count_cons, List.count_nil]
  split <;> simp_all

theorem fn84 (w : World) : ∃ oc od fd osl, (hd.heap_1 w.params).lookup 84 = some ⟨oc, od, .func fd, osl⟩ := ⟨_, _, _, _, by exact rfl⟩

section
variable {dp un : Nat} {gd : Option (List Code)} {env : Env} {outer : List Env} {A₀ : Around} {base : Heap} {tp : Program} {tl : List Str} {mean : ExcName → Option Value} {mg mb : Str → Option Value}

theorem cit_next {a : LexA} {text : Str} {adr : List Addr} {RO : Nat → List (Addr × Obj) → Prop} (Rd : Reader w a.rd text adr RO) (O : a.Ok adr) {c : Int} {wsp : Str} {ws : List Str} {p : Nat} {blk : List (Addr × Obj)}
    (M : MachSt w a RO (c + nlTo text p) wsp ws p blk) {it q : Addr} {t : Tok} (hiq : it ≠ q) (hib : ∀ r ∈ blk, r.1 ≠ it) (hqb : ∀ r ∈ blk, r.1 ≠ q)
    (B : Below A₀ base outer h₀) (F : Fr h₀ L s.heap m) (X : (hd.heap_1 w.params).In h₀) (T : Top tp tl mean mg mb h₀) (hf : env.frame = some L) (hke : env.scope.kind = .function)
    (N : News h₀ L s.heap ((it, citObj q t) :: (q, methodObj (.ref 84) (.ref a.x)) :: blk)) (hd : dp + 10 < recursionLimit) (hu : un + 100 < cLine) (hp : p ≤ text.length)
    {Q : Option Value → Shared → Prop}
    (h1 : p < text.length → ∀ h' tk' t' blk', Fr h₀ L h' m → News h₀ L h' ((it, citObj q t) :: (q, methodObj (.ref 84) (.ref a.x)) :: blk') → MachSt w a RO (c + nlTo text (p + 1)) wsp ws (p + 1) blk' →
      Q (some (.str (signAt text p) t')) { s with heap := h', toks := tk' })
    (h2 : p = text.length → ∀ h' tk' blk', Fr h₀ L h' m → News h₀ L h' ((it, citEnd) :: (q, methodObj (.ref 84) (.ref a.x)) :: blk') → MachSt w a RO (c + nlTo text p) wsp ws p blk' →
      Q none { s with heap := h', toks := tk' }) :
    wpAny (model Challenge.rw_pe0259_01.row.prog w) (Ar dp un gd (env :: outer)) (pyNext (.ref it)) Q E s := by
  have hit := (N (it, citObj q t) (.head _)).1
  have hT : s.TypeIs (.ref it) "callable_iterator" := ⟨_, hit, rfl⟩
  unfold pyNext
  refine wpAny_bind (wpAny_attempt (wpAny_callSpecial?_slot (name := Str.ofString "__next__") hT slot_cit_next
    (wpAny_call_entry slot_cit_next hT entry_cit_next ?_ (args_cit_next _))))
  show wpAny _ _ (field (.ref it) 2 >>= _) _ _ s
  refine wpAny_bind (wpAny_field hit rfl (x := .bool false) rfl ?_)
  show wpAny _ _ (field (.ref it) 0 >>= _) _ _ s
  refine wpAny_bind (wpAny_field hit rfl (x := .ref q) rfl ?_)
  refine wpAny_bind (wpAny_attempt ?_)
  unfold callOutOfASlot
  have hq := (N (q, methodObj (.ref 84) (.ref a.x)) (.tail _ (.head _))).1
  obtain ⟨oc, od, fd, osl, hK⟩ := fn84 w
  have h84 := F.keep _ _ (X _ _ hK)
  refine wpAny_bind (borrows_meth hq h84 rfl ?_)
  refine wpAny_callBorrowed (method_call hq ?_)
  have C : Con w 4 40 84 [.ref a.x] blk (fun _ v blk' => ∃ t, v = .str (signAt text p) t ∧ MachSt w a RO (if signAt text p == "\n" then c + nlTo text p + 1 else c + nlTo text p) wsp ws (min (p + 1) text.length) blk') := by
    obtain ⟨lt, tw, k, l, items, hl, hi, rfl⟩ := M
    refine Con.mono (read_char_c w a text adr RO Rd O _ lt _ items k p l hl) fun n v sel' hQ => ?_
    obtain ⟨t, lt', l', rfl, hl', rfl⟩ := hQ
    exact ⟨t, rfl, lt', tw, k, l', items, hl', hi, rfl⟩
  refine use_gc C (oth := [(it, citObj q t), (q, methodObj (.ref 84) (.ref a.x))]) B F X N T hf hke (fun r hr => .tail _ (.tail _ hr)) ?_ ?_ (by show dp + 4 < recursionLimit; omega) (by show un + 1 + 40 < cLine; omega) ?_
  · exact List.forall_mem_cons.mpr ⟨.head _, List.forall_mem_cons.mpr ⟨.tail _ (.head _), List.forall_mem_nil _⟩⟩
  · exact List.forall_mem_cons.mpr ⟨fun r hr e => hib r hr e.symm, List.forall_mem_cons.mpr ⟨fun r hr e => hqb r hr e.symm, List.forall_mem_nil _⟩⟩
  rintro v blk' h' tk' F' N' - - ⟨t', rfl, M'⟩
  have hit' := (N' (it, citObj q t) (List.mem_append_right _ (.head _))).1
  have hq' := (N' (q, methodObj (.ref 84) (.ref a.x)) (List.mem_append_right _ (.tail _ (.head _)))).1
  have h84' := F'.keep _ _ (X _ _ hK)
  replace N' : News h₀ L h' ((it, citObj q t) :: (q, methodObj (.ref 84) (.ref a.x)) :: blk') := fun r hr => by
    rcases List.mem_cons.mp hr with rfl | hr
    · exact N' _ (List.mem_append_right _ (.head _))
    · rcases List.mem_cons.mp hr with rfl | hr
      · exact N' _ (List.mem_append_right _ (.tail _ (.head _)))
      · exact N' _ (List.mem_append_left _ hr)
  show wpAny _ _ (field (.ref it) 2 >>= _) _ _ _
  refine wpAny_bind (wpAny_field hit' rfl (x := .bool false) rfl ?_)
  show wpAny _ _ (field (.ref it) 1 >>= _) _ _ _
  refine wpAny_bind (wpAny_field hit' rfl (x := .str "" t) rfl ?_)
  refine wpAny_bind (wpAny_holding (eqBool_str ?_))
  rcases Nat.lt_or_ge p text.length with hlt | hge
  · have hne : (("" : Str) == signAt text p) = false := by
      rw [signAt_lt (by rw [← len_cps]; exact hlt)]
      refine beq_eq_false_iff_ne.mpr fun q => ?_
      have e : ("" : Str) = ⟨#[]⟩ := by decide +kernel
      rw [e] at q; injection q with q; simp at q
    rw [hne]
    refine wpAny_pure ⟨_, rfl, ?_⟩
    refine wpAny_pure (h1 hlt h' tk' t' blk' F' N' ?_)
    rw [nlTo_succ hlt]
    rw [Nat.min_eq_left hlt] at M'
    cases hb : signAt text p == "\n" <;> rw [hb] at M' <;> simpa [Int.add_assoc] using M'
  · have e0 : ("" : Str) = ⟨#[]⟩ := by decide +kernel
    have es : signAt text p = "" := by rw [signAt_ge (by rw [← len_cps]; exact hge), e0]
    have hpe : p = text.length := Nat.le_antisymm hp hge
    rw [es]
    rw [show (("" : Str) == ("" : Str)) = true from by decide +kernel]
    show wpAny _ _ (rule _ >>= _) _ _ _
    refine wpAny_bind (wpAny_rule (wpAny_bind ?_))
    show wpAny _ _ (field (.ref it) 0 >>= _) _ _ _
    refine wpAny_bind (wpAny_field hit' rfl (x := .ref q) rfl ?_)
    refine wpAny_bind ?_
    show wpAny _ _ (borrowsExactly (.ref q) >>= _) _ _ _
    refine wpAny_bind (borrows_meth hq' h84' rfl ?_)
    refine wpAny_pure ?_
    have M2 : MachSt w a RO (c + nlTo text p) wsp ws p blk' := by
      rw [es, show (("" : Str) == ("\n" : Str)) = false from by decide +kernel, Nat.min_eq_right (by omega)] at M'
      rw [← hpe] at M'
      exact M'
    have hib' : ∀ r ∈ (q, methodObj (.ref 84) (.ref a.x)) :: blk', r.1 ≠ it := by
      refine List.forall_mem_cons.mpr ⟨Ne.symm hiq, fun r hr e => ?_⟩
      have := MachSt.adrs M2 Rd
      rw [← MachSt.adrs M Rd] at this
      have hm : r.1 ∈ blk.map Prod.fst := this ▸ List.mem_map_of_mem hr
      obtain ⟨r', hr', e'⟩ := List.mem_map.mp hm
      exact hib r' hr' (e'.trans e)
    obtain ⟨F1, N1⟩ := news_upd (pre := []) (d := it) (f := Obj.mapFields (·.setIfInBounds 0 Value.none)) F' N' (fun _ h => nomatch h) hib' rfl rfl
    refine wpAny_bind (wpAny_setField hit' rfl (by simp) ?_)
    have hit1 := (N1 (it, _) (.head _)).1
    obtain ⟨F2, N2⟩ := news_upd (pre := []) (d := it) (f := Obj.mapFields (·.setIfInBounds 1 Value.none)) F1 N1 (fun _ h => nomatch h) hib' rfl rfl
    refine wpAny_bind (wpAny_setField hit1 rfl (by simp) ?_)
    have hit2 := (N2 (it, _) (.head _)).1
    obtain ⟨F3, N3⟩ := news_upd (pre := []) (d := it) (f := Obj.mapFields (·.setIfInBounds 2 (Value.bool true))) F2 N2 (fun _ h => nomatch h) hib' rfl rfl
    refine wpAny_setField hit2 rfl (by simp) ?_
    refine wpAny_mono (stop_raise (Q := fun v s' => False) (P := Q) (E := E) rfl fun h'' hk => ?_) (fun fin s' z => z.elim) (fun e s' z => ?_)
    · refine h2 hpe h'' _ blk' ⟨?_, fun b o e => hk b o (F3.keep b o e), F3.above⟩ (fun r hr => ⟨hk _ _ (N3 r hr).1, (N3 r hr).2⟩) M2
      obtain ⟨oL, es, ep, hL, r⟩ := F3.ns
      exact ⟨oL, es, ep, hk _ _ hL, r⟩
    · exact wpAny_of_in1 z

theorem keep_all {h h' : Heap} {news : List (Addr × Obj)} (F : Fr h₀ L h m) (N : News h₀ L h news) (hk : ∀ b o, h.get? b = some o → h'.get? b = some o) : Fr h₀ L h' m ∧ News h₀ L h' news := by
  obtain ⟨oL, es, ep, hL, r⟩ := F.ns
  exact ⟨⟨⟨oL, es, ep, hk _ _ hL, r⟩, fun b o e => hk b o (F.keep b o e), F.above⟩, fun r hr => ⟨hk _ _ (N r hr).1, (N r hr).2⟩⟩

theorem cit_ended {it : Addr} {news : List (Addr × Obj)} (F : Fr h₀ L s.heap m) (N : News h₀ L s.heap ((it, citEnd) :: news)) {Q : Option Value → Shared → Prop} {A : Around} (hh : A.handled = none)
    (h : ∀ h', Fr h₀ L h' m → News h₀ L h' ((it, citEnd) :: news) → Q none { s with heap := h' }) :
    wpAny (model prog w) A (pyNext (.ref it)) Q E s := by
  have hit := (N (it, citEnd) (.head _)).1
  have hT : s.TypeIs (.ref it) "callable_iterator" := ⟨_, hit, rfl⟩
  unfold pyNext
  refine wpAny_bind (wpAny_attempt (wpAny_callSpecial?_slot (name := Str.ofString "__next__") hT slot_cit_next
    (wpAny_call_entry slot_cit_next hT entry_cit_next ?_ (args_cit_next _))))
  show wpAny _ _ (field (.ref it) 2 >>= _) _ _ s
  refine wpAny_bind (wpAny_field hit rfl (x := .bool true) rfl ?_)
  show wpAny _ _ (rule _ >>= _) _ _ s
  refine wpAny_bind (wpAny_rule ?_)
  refine wpAny_bind ?_
  refine wpAny_mono (stop_raise (A := A.in1) (Q := fun v s' => False) (P := Q) (E := E) hh fun h' hk => ?_) (fun fin s' z => z.elim) (fun e s' z => ?_)
  · obtain ⟨F', N'⟩ := keep_all F N hk
    exact h h' F' N'
  · exact wpAny_of_in1 z

theorem call_read {a : LexA} {text : Str} {adr : List Addr} {RO : Nat → List (Addr × Obj) → Prop} (Rd : Reader w a.rd text adr RO) (O : a.Ok adr) {c : Int} {wsp : Str} {ws : List Str} {p : Nat} {blk : List (Addr × Obj)}
    (M : MachSt w a RO (c + nlTo text p) wsp ws p blk) {it q : Addr} {o1 o2 : Obj} (hib : it ∉ [a.x, a.dx, a.pb, a.st, a.std] ++ adr) (hqb : q ∉ [a.x, a.dx, a.pb, a.st, a.std] ++ adr)
    (B : Below A₀ base outer h₀) (F : Fr h₀ L s.heap m) (X : (hd.heap_1 w.params).In h₀) (T : Top tp tl mean mg mb h₀) (hf : env.frame = some L) (hke : env.scope.kind = .function)
    (N : News h₀ L s.heap ((it, o1) :: (q, o2) :: blk)) (hd : dp + 10 < recursionLimit) (hu : un + 100 < cLine) (hp : p ≤ text.length)
    {Q : Value → Shared → Prop}
    (h : ∀ h' tk' t' blk' p', p' = min (p + 1) text.length → Fr h₀ L h' m → News h₀ L h' ((it, o1) :: (q, o2) :: blk') → MachSt w a RO (c + nlTo text p') wsp ws p' blk' →
      Q (.str (signAt text p) t') { s with heap := h', toks := tk' }) :
    wpAny (model Challenge.rw_pe0259_01.row.prog w) (Ar dp un gd (env :: outer)) (call (.ref 84) [.ref a.x]) Q E s := by
  have had := M.adrs Rd
  have hib' : ∀ r ∈ blk, r.1 ≠ it := fun r hr e => hib (had ▸ e ▸ List.mem_map_of_mem hr)
  have hqb' : ∀ r ∈ blk, r.1 ≠ q := fun r hr e => hqb (had ▸ e ▸ List.mem_map_of_mem hr)
  have C : Con w 4 40 84 [.ref a.x] blk (fun _ v blk' => ∃ t, v = .str (signAt text p) t ∧ MachSt w a RO (if signAt text p == "\n" then c + nlTo text p + 1 else c + nlTo text p) wsp ws (min (p + 1) text.length) blk') := by
    obtain ⟨lt, tw, k, l, items, hl, hi, rfl⟩ := M
    refine Con.mono (read_char_c w a text adr RO Rd O _ lt _ items k p l hl) fun n v sel' hQ => ?_
    obtain ⟨t, lt', l', rfl, hl', rfl⟩ := hQ
    exact ⟨t, rfl, lt', tw, k, l', items, hl', hi, rfl⟩
  refine use_g C (oth := [(it, o1), (q, o2)]) B F X N T hf hke (fun r hr => .tail _ (.tail _ hr)) ?_ ?_ (by omega) (by omega) ?_
  · exact List.forall_mem_cons.mpr ⟨.head _, List.forall_mem_cons.mpr ⟨.tail _ (.head _), List.forall_mem_nil _⟩⟩
  · exact List.forall_mem_cons.mpr ⟨fun r hr e => hib' r hr e.symm, List.forall_mem_cons.mpr ⟨fun r hr e => hqb' r hr e.symm, List.forall_mem_nil _⟩⟩
  rintro v blk' h' tk' F' N' - - ⟨t', rfl, M'⟩
  refine h h' tk' t' blk' _ rfl F' (fun r hr => ?_) ?_
  · rcases List.mem_cons.mp hr with rfl | hr
    · exact N' _ (List.mem_append_right _ (.head _))
    · rcases List.mem_cons.mp hr with rfl | hr
      · exact N' _ (List.mem_append_right _ (.tail _ (.head _)))
      · exact N' _ (List.mem_append_left _ hr)
  · rcases Nat.lt_or_ge p text.length with hlt | hge
    · rw [Nat.min_eq_left hlt] at M' ⊢
      rw [nlTo_succ hlt]
      cases hb : signAt text p == "\n" <;> rw [hb] at M' <;> simpa [Int.add_assoc] using M'
    · have hpe : p = text.length := Nat.le_antisymm hp hge
      have e0 : ("" : Str) = ⟨#[]⟩ := by decide +kernel
      rw [show signAt text p = "" from by rw [signAt_ge (by rw [← len_cps]; exact hge), e0], show (("" : Str) == ("\n" : Str)) = false from by decide +kernel, Nat.min_eq_right (by omega)] at M'
      rw [Nat.min_eq_right (by omega)]
      rw [hpe] at M'
      exact M'

/-- what a turn leaves to be shown: the walk stops ahead of it -/
noncomputable def Left (P : Prop) : Prop := P
/-- the state between two turns of a loop over the signs -/
noncomputable def CS (w : World) (a : LexA) (RO : Nat → List (Addr × Obj) → Prop) (text : Str) (c : Int) (wsp : Str) (it q : Addr) (t : Tok) (h₀ : Heap) (L : Addr) (s₀ : Shared) (exh : Bool) (p : Nat) (m : Str → Option Value) (s : Shared) : Prop :=
  ∃ h tk blk, s = { s₀ with heap := h, toks := tk } ∧ Fr h₀ L h m ∧ News h₀ L h ((it, if exh then citEnd else citObj q t) :: (q, methodObj (.ref 84) (.ref a.x)) :: blk) ∧ MachSt w a RO (c + nlTo text p) wsp [] p blk

theorem for_cit {a : LexA} {text : Str} {adr : List Addr} {RO : Nat → List (Addr × Obj) → Prop} (Rd : Reader w a.rd text adr RO) (O : a.Ok adr) {c : Int} {wsp : Str} {it q : Addr} {t : Tok}
    (hiq : it ≠ q) (hib : it ∉ [a.x, a.dx, a.pb, a.st, a.std] ++ adr) (hqb : q ∉ [a.x, a.dx, a.pb, a.st, a.std] ++ adr)
    (B : Below A₀ base outer h₀) (X : (hd.heap_1 w.params).In h₀) (T : Top tp tl mean mg mb h₀) (hf : env.frame = some L) (hke : env.scope.kind = .function) (hel : env.locals = L) (hkd : env.kindOf "ch" = some .local)
    (hd : dp + 10 < recursionLimit) (hu : un + 100 < cLine)
    {body : List Stmt} {cpos : Pos} {R : Result → Shared → Prop} (J : Bool → Nat → (Str → Option Value) → Prop)
    (turn : ∀ p m t' s', p < text.length → J false p m → CS w a RO text c wsp it q t h₀ L s false (p + 1) (fun y => if y = "ch" then some (.str (signAt text p) t') else m y) s' →
      wpAny (model Challenge.rw_pe0259_01.row.prog w) (Ar dp un gd (env :: outer)) (execs body env) (fun f s₂ => match f with
        | .next | .cont => Left (∃ exh p' m', p < p' ∧ p' ≤ text.length ∧ J exh p' m' ∧ CS w a RO text c wsp it q t h₀ L s exh p' m' s₂)
        | .brk => R (.ok .next) s₂
        | .ret v => R (.ok (.ret v)) s₂) (fun _ _ => False) s')
    (done : ∀ exh p m s', p ≤ text.length → J exh p m → (exh = true ∨ p = text.length) → CS w a RO text c wsp it q t h₀ L s true p m s' → R (.ok .next) s')
    {exh : Bool} {p : Nat} {m : Str → Option Value} {s' : Shared} (hp : p ≤ text.length) (hj : J exh p m) (hs : CS w a RO text c wsp it q t h₀ L s exh p m s') :
    codeAny (model Challenge.rw_pe0259_01.row.prog w) (Ar dp un gd (env :: outer)) (.forLoop (.Name "ch" cpos) (.ref it) body [] env) R s' := by
  refine codeAny_forLoop (fun n s' => ∃ exh p m, p ≤ text.length ∧ n = text.length - p ∧ J exh p m ∧ CS w a RO text c wsp it q t h₀ L s exh p m s') ?_ (text.length - p) ⟨exh, p, m, hp, rfl, hj, hs⟩
  rintro n s₁ ⟨exh, p, m, hp, rfl, hj, h, tk, blk, rfl, F, N, M⟩
  have had := M.adrs Rd
  have hib' : ∀ r ∈ blk, r.1 ≠ it := fun r hr e => hib (had ▸ e ▸ List.mem_map_of_mem hr)
  have hqb' : ∀ r ∈ blk, r.1 ≠ q := fun r hr e => hqb (had ▸ e ▸ List.mem_map_of_mem hr)
  cases exh with
  | true =>
    refine cit_ended (news := (q, methodObj (.ref 84) (.ref a.x)) :: blk) F N rfl fun h' F' N' => ?_
    refine wpAny_execs_nil ?_
    exact done true p m _ hp hj (.inl rfl) ⟨h', tk, blk, rfl, F', N', M⟩
  | false =>
    refine cit_next Rd O M hiq hib' hqb' B F X T hf hke N hd hu hp ?_ ?_
    · intro hlt h' tk' t' blk' F' N' M'
      refine wpAny_assign_Name ?_
      refine wpAny_storeName_local (by rw [hkd]) (by rw [hel]; exact F'.ns) (fun h'' hn hs => ?_) ?_
      · rw [hel] at hs hn
        refine wpAny_mono (turn p m t' _ hlt hj ⟨h'', _, blk', rfl, F'.set hn hs, N'.set hs, M'⟩) (fun f s₂ z => ?_) (fun _ _ z => z.elim)
        cases f with
        | next => obtain ⟨e, p', m', z1, z2, z3, z4⟩ := z; exact ⟨_, by omega, e, p', m', z2, rfl, z3, z4⟩
        | cont => obtain ⟨e, p', m', z1, z2, z3, z4⟩ := z; exact ⟨_, by omega, e, p', m', z2, rfl, z3, z4⟩
        | brk => exact z
        | ret v => exact z
      · rw [hke]; rfl
    · intro hpe h' tk' blk' F' N' M'
      refine wpAny_execs_nil ?_
      exact done false p m _ hp hj (.inr hpe) ⟨h', tk', blk', rfl, F', N', M'⟩
end
end
section
local macro_rules | `(tactic| size_fits) => `(tactic| (rw [Str.length_append, sizeLine_eq]; omega))

/-- the locals of get_token -/
noncomputable def gm (x it : Addr) (tok : Str) (tt : Tok) (chv : Option Value) : Str → Option Value :=
  fun y => if y = "ch" then chv else if y = "fiter" then some (.ref it) else if y = "token" then some (.str tok tt) else if y = "self" then some (.ref x) else none

theorem Fr.congr {h₀ h : Heap} {L : Addr} {m m' : Str → Option Value} (F : Fr h₀ L h m) (e : ∀ y, m y = m' y) : Fr h₀ L h m' := funext e ▸ F
theorem gm_ch {x it : Addr} {tok : Str} {tt : Tok} {chv v : Option Value} {m : Str → Option Value} (hm : ∀ y, m y = gm x it tok tt chv y) (y : Str) : (if y = "ch" then v else m y) = gm x it tok tt v y := by
  rw [hm]
  unfold gm
  split <;> rfl
theorem gm_tok {x it : Addr} {tok tok' : Str} {tt tt' : Tok} {chv : Option Value} {m : Str → Option Value} (hm : ∀ y, m y = gm x it tok tt chv y) (y : Str) : (if y = "token" then some (.str tok' tt') else m y) = gm x it tok' tt' chv y := by
  rw [hm]
  unfold gm
  by_cases h1 : y = "token"
  · subst h1; rfl
  · simp only [if_neg h1]
theorem gm_start {x it : Addr} {tok : Str} {tt : Tok} (y : Str) : (if y = "fiter" then some (.ref it) else if y = "token" then some (.str tok tt) else List.lookup y [(Str.ofString "self", Value.ref x)]) = gm x it tok tt none y := by
  unfold gm
  by_cases h1 : y = "ch"
  · subst h1; rfl
  · simp only [if_neg h1]
    by_cases h2 : y = "self"
    · subst h2; rfl
    · simp only [if_neg h2, List.lookup, beq_eq_false_iff_ne.mpr h2]
theorem gm_tt {x it : Addr} {tok tok' : Str} {tt tt' : Tok} {chv : Option Value} (y : Str) :
    (if y = "token" then some (.str tok' tt') else if y = "ch" then chv else if y = "fiter" then some (.ref it) else if y = "token" then some (.str tok tt) else if y = "self" then some (.ref x) else none) = gm x it tok' tt' chv y := by
  unfold gm
  by_cases h1 : y = "token"
  · subst h1; rfl
  · simp only [if_neg h1]
theorem gm_tct {x it : Addr} {tok tok' : Str} {tt tt' : Tok} {chv chv' : Option Value} (y : Str) :
    (if y = "token" then some (.str tok' tt') else if y = "ch" then chv' else if y = "ch" then chv else if y = "fiter" then some (.ref it) else if y = "token" then some (.str tok tt) else if y = "self" then some (.ref x) else none) = gm x it tok' tt' chv' y := by
  unfold gm
  by_cases h1 : y = "token"
  · subst h1; rfl
  · by_cases h2 : y = "ch"
    · subst h2; rfl
    · simp only [if_neg h1, if_neg h2]
theorem allLt_mem {d : Nat} {l : List (Addr × Obj)} (h : AllLt d l) : ∀ p ∈ l, p.1 < d := by
  induction l with
  | nil => intro p hp; cases hp
  | cons x l ih =>
    obtain ⟨h1, h2⟩ := h
    exact List.forall_mem_cons.mpr ⟨h1, ih h2⟩
theorem not_mem_lex {w : World} {a : LexA} {lin wsp : Value} {items : List Value} {k : Nat} {l : List (Addr × Obj)} {adr : List Addr} {d : Addr} (hl : l.map Prod.fst = adr) (h : ∀ r ∈ lexObjs w a lin wsp items k ++ l, r.1 < d) :
    d ∉ [a.x, a.dx, a.pb, a.st, a.std] ++ adr := fun hm => by
  have e : (lexObjs w a lin wsp items k ++ l).map Prod.fst = [a.x, a.dx, a.pb, a.st, a.std] ++ adr := by
    rw [List.map_append, hl]; rfl
  rw [← e] at hm
  obtain ⟨r, hr, e⟩ := List.mem_map.mp hm
  have := h r hr
  rw [e] at this
  exact Nat.lt_irrefl _ this
theorem gm_self (x it : Addr) (tok : Str) (tt : Tok) (chv : Option Value) : gm x it tok tt chv "self" = some (.ref x) := rfl

/-- the signs' numbers from place p on -/
noncomputable abbrev codes (x : Str) (p : Nat) : List Nat := x.cps.toList.drop p
theorem codes_lt {x : Str} {p : Nat} (h : p < x.length) : ∃ c, signAt x p = ⟨#[c]⟩ ∧ codes x p = c :: codes x (p + 1) := by
  rw [len_cps] at h
  exact ⟨_, signAt_lt h, List.drop_eq_getElem_cons h⟩
theorem codes_ge {x : Str} {p : Nat} (h : x.length ≤ p) : codes x p = [] := by
  rw [len_cps] at h
  exact List.drop_eq_nil_of_le h

theorem one_beq (c k : Nat) : ((⟨#[c]⟩ : Str) == ⟨#[k]⟩) = (c == k) := by
  by_cases h : c = k
  · subst h; simp
  · have : (⟨#[c]⟩ : Str) ≠ ⟨#[k]⟩ := fun q => h (by injection q with q; simpa using q)
    rw [beq_eq_false_iff_ne.mpr this, beq_eq_false_iff_ne.mpr h]
theorem q_lit : ("\"" : Str) = ⟨#[34]⟩ := by decide +kernel
theorem b_lit : ("\\" : Str) = ⟨#[92]⟩ := by decide +kernel
theorem app_nil (x : Str) : x ++ (⟨#[]⟩ : Str) = x := by
  apply Str.ext'
  rw [Str.cps_append]; simp
theorem one_len (c : Nat) : (⟨#[c]⟩ : Str).length = 1 := rfl

/-- is the sign one of these white ones -/
noncomputable def inWs (ws : Str) (c : Nat) : Bool := !(Str.occurrences ws ⟨#[c]⟩ 0 ws.length 1).isEmpty
noncomputable def lexQ : List Nat → Str → Str × List Nat
  | [], tok => (tok, [])
  | c :: cs, tok => if c = 34 then (tok, cs) else if c = 92 then (match cs with | [] => (tok, []) | d :: cs' => lexQ cs' (tok ++ ⟨#[d]⟩)) else lexQ cs (tok ++ ⟨#[c]⟩)
noncomputable def lexW (ws : Str) : List Nat → Str → Str × List Nat
  | [], tok => (tok, [])
  | c :: cs, tok => if inWs ws c then (tok, cs) else if c = 92 then (match cs with | [] => (tok, []) | d :: cs' => lexW ws cs' (tok ++ ⟨#[d]⟩)) else lexW ws cs (tok ++ ⟨#[c]⟩)
noncomputable def lex0 (ws : Str) : List Nat → Str × List Nat
  | [] => ("", [])
  | c :: cs => if inWs ws c then lex0 ws cs else if c = 34 then lexQ cs "" else if c = 92 then (match cs with | [] => ("", []) | d :: cs' => lexW ws cs' ("" ++ ⟨#[d]⟩)) else lexW ws cs ("" ++ ⟨#[c]⟩)

theorem lexQ_cons (c : Nat) (cs : List Nat) (tok : Str) : lexQ (c :: cs) tok = if c = 34 then (tok, cs) else if c = 92 then (match cs with | [] => (tok, []) | d :: cs' => lexQ cs' (tok ++ ⟨#[d]⟩)) else lexQ cs (tok ++ ⟨#[c]⟩) := by
  rw [lexQ.eq_def]
theorem lexW_cons (ws : Str) (c : Nat) (cs : List Nat) (tok : Str) : lexW ws (c :: cs) tok = if inWs ws c then (tok, cs) else if c = 92 then (match cs with | [] => (tok, []) | d :: cs' => lexW ws cs' (tok ++ ⟨#[d]⟩)) else lexW ws cs (tok ++ ⟨#[c]⟩) := by
  rw [lexW.eq_def]
theorem lex0_cons (ws : Str) (c : Nat) (cs : List Nat) : lex0 ws (c :: cs) = if inWs ws c then lex0 ws cs else if c = 34 then lexQ cs "" else if c = 92 then (match cs with | [] => ("", []) | d :: cs' => lexW ws cs' ("" ++ ⟨#[d]⟩)) else lexW ws cs ("" ++ ⟨#[c]⟩) := by
  rw [lex0.eq_def]
theorem sign_len (x : Str) (p : Nat) : (signAt x p).length ≤ 1 := by
  rcases Nat.lt_or_ge p x.length with h | h
  · rw [signAt_lt (by rw [← len_cps]; exact h)]; exact Nat.le_refl _
  · rw [signAt_ge (by rw [← len_cps]; exact h)]; exact Nat.zero_le _
theorem lexW_esc {ws text tok : Str} {p c p' : Nat} (hcs : codes text p = c :: codes text (p + 1)) (hw : inWs ws c = false) (h92 : c = 92) (hp' : p' = min (p + 1 + 1) text.length) : lexW ws (codes text p') (tok ++ signAt text (p + 1)) = lexW ws (codes text p) tok := by
  rw [hcs, lexW_cons, hw, h92]
  rcases Nat.lt_or_ge (p + 1) text.length with h | h
  · obtain ⟨d, e1, e2⟩ := codes_lt h
    rw [e2, e1, hp', Nat.min_eq_left h]; simp
  · rw [codes_ge h, signAt_ge (by rw [← len_cps]; exact h), hp', Nat.min_eq_right (by omega), codes_ge (Nat.le_refl _), app_nil]; simp [lexW]
theorem lexQ_esc {text tok : Str} {p c p' : Nat} (hcs : codes text p = c :: codes text (p + 1)) (h92 : c = 92) (hp' : p' = min (p + 1 + 1) text.length) : lexQ (codes text p') (tok ++ signAt text (p + 1)) = lexQ (codes text p) tok := by
  rw [hcs, lexQ_cons, h92]
  rcases Nat.lt_or_ge (p + 1) text.length with h | h
  · obtain ⟨d, e1, e2⟩ := codes_lt h
    rw [e2, e1, hp', Nat.min_eq_left h]; simp
  · rw [codes_ge h, signAt_ge (by rw [← len_cps]; exact h), hp', Nat.min_eq_right (by omega), codes_ge (Nat.le_refl _), app_nil]; simp [lexQ]
theorem lex0_esc {ws text : Str} {p c p' : Nat} (hcs : codes text p = c :: codes text (p + 1)) (hw : inWs ws c = false) (h92 : c = 92) (hp' : p' = min (p + 1 + 1) text.length) : lexW ws (codes text p') ("" ++ signAt text (p + 1)) = lex0 ws (codes text p) := by
  rw [hcs, lex0_cons, hw, h92]
  rcases Nat.lt_or_ge (p + 1) text.length with h | h
  · obtain ⟨d, e1, e2⟩ := codes_lt h
    rw [e2, e1, hp', Nat.min_eq_left h]; simp
  · rw [codes_ge h, signAt_ge (by rw [← len_cps]; exact h), hp', Nat.min_eq_right (by omega), codes_ge (Nat.le_refl _), app_nil]; simp [lexW]

theorem get_token_0 (w : World) (a : LexA) (text : Str) (adr : List Addr) (RO : Nat → List (Addr × Obj) → Prop) (Rd : Reader w a.rd text adr RO) (O : a.Ok adr)
    (c : Int) (wsp : Str) (p : Nat) (blk : List (Addr × Obj)) (M : MachSt w a RO (c + nlTo text p) wsp [] p blk) (hp : p ≤ text.length) (hlen : text.length < 100000) :
   Con w 20 200 91 [.ref a.x] blk (fun _ v blk' => ∃ t p', v = .str (lex0 wsp (codes text p)).1 t ∧ p' ≤ text.length ∧ codes text p' = (lex0 wsp (codes text p)).2 ∧ MachSt w a RO (c + nlTo text p') wsp [] p' blk') := by
  obtain ⟨lt, tw, k, l, items, hl, hi, rfl⟩ := M
  cases hi
  unfold Con
  k_fill
  intro dp un gd outer base g tp tl mean mg mb s R B hg hsz hsel X T hd hu ret
  refine' enter_g B hg hsz hsel X T ?k6 ?k7 ?k8 ?k9 ?kB ?_ ?c2 ?c3 ?c4 ?c5
  (case k6 => k_is); (case k7 => k_is); (case k8 => ktr_room); (case k9 => exact BindsTo.of_eq rfl); (case c5 => decide); (case kB => exact locs rfl); (case c2 => exact rfl); (case c3 => exact rfl); (case c4 => exact rfl)
  k_whole
  intro L' h' tk' F' N' l1
  simp only [lexObjs, List.cons_append, List.nil_append] at N'
  obtain ⟨n1, n2, n3, n4, n5, n6, n7, q1, q2, q3, q4, q5⟩ := id O
  have m3 := not_adr (Rd.adrs p l hl) q3
  (try dsimp only); (try k_fold)
  ((repeat' ((fail_if_success (with_reducible show wpAny _ _ (truthy (Value.ref a.pb)) _ _ _)); (first | (k_unfold; (try dsimp only)) | ((with_reducible first | show wpAny _ _ (exec _ _) _ _ _ | show wpAny _ _ (execs _ _) _ _ _); k_fold) | (k_end; wrow_close) | walk1 | (dsimp only; walk1) | (leave1; (try dsimp only))))) <;> (repeat (k_unfold; (try dsimp only))))
  rename News _ _ _ _ => N1
  refine wpAny_truthy_list (News.isList N1 (by k_mem)) (by decide) ?_
  rw [show (!([] : List Value).toArray.isEmpty) = false from by decide]
  ((repeat' ((fail_if_success (with_reducible show wpAny _ _ (call (Value.builtin "iter") _) _ _ _)); (first | (k_unfold; (try dsimp only)) | ((with_reducible first | show wpAny _ _ (exec _ _) _ _ _ | show wpAny _ _ (execs _ _) _ _ _); k_fold) | (k_end; wrow_close) | walk1 | (dsimp only; walk1) | (leave1; (try dsimp only))))) <;> (repeat (k_unfold; (try dsimp only))))
  rename Addr => q
  rename Fr _ _ _ _ => F2
  rename News _ _ _ _ => N2
  refine iter2 F2 N2 (by k_mem) ?_
  intro it t3 h3 F3 N3 l3
  clear F2 N2
  (try dsimp only)
  ((repeat' ((fail_if_success (with_reducible show wpAny _ _ (exec (Stmt.For _ _ _ _ _) _) _ _ _)); (first | (k_unfold; (try dsimp only)) | ((with_reducible first | show wpAny _ _ (exec _ _) _ _ _ | show wpAny _ _ (execs _ _) _ _ _); k_fold) | (k_end; wrow_close) | walk1 | (dsimp only; walk1) | (leave1; (try dsimp only))))) <;> (repeat (k_unfold; (try dsimp only))))
  rename Fr _ _ _ _ => F4
  rename News _ _ _ _ => N4
  refine wpAny_For ?_
  ((repeat' ((fail_if_success (with_reducible show wpAny _ _ (pyIter _) _ _ _)); (first | (k_unfold; (try dsimp only)) | ((with_reducible first | show wpAny _ _ (exec _ _) _ _ _ | show wpAny _ _ (execs _ _) _ _ _); k_fold) | (k_end; wrow_close) | walk1 | (dsimp only; walk1) | (leave1; (try dsimp only))))) <;> (repeat (k_unfold; (try dsimp only))))
  refine pyIter_cit (N4 (it, _) (.head _)).1 rfl ?_
  (try dsimp only)
  obtain ⟨tt0, F4⟩ : ∃ tt, Fr g L' _ (gm a.x it "" tt none) := ⟨_, Fr.congr F4 gm_start⟩
  have hit0 : it ∉ [a.x, a.dx, a.pb, a.st, a.std] ++ adr := not_mem_lex (w := w) (lin := .int (c + nlTo text p) lt) (wsp := .str wsp tw) (items := []) (k := k) (Rd.adrs p l hl) (fun r hr => l3 r (.tail _ hr))
  have hq0 : q ∉ [a.x, a.dx, a.pb, a.st, a.std] ++ adr := by
    rename (_ < q ∧ _) => hl9
    obtain ⟨e1, e2, e3, e4, e5, e6⟩ := hl9
    refine not_mem_lex (w := w) (lin := .int (c + nlTo text p) lt) (wsp := .str wsp tw) (items := []) (k := k) (Rd.adrs p l hl) ?_
    exact List.forall_mem_cons.mpr ⟨e1, List.forall_mem_cons.mpr ⟨e2, List.forall_mem_cons.mpr ⟨e3, List.forall_mem_cons.mpr ⟨e4, List.forall_mem_cons.mpr ⟨e5, allLt_mem e6⟩⟩⟩⟩⟩
  have hiq : it ≠ q := Nat.ne_of_gt (l3 (q, _) (.head _))
  generalize hres : lex0 wsp (codes text p) = res at ret
  refine' for_cit (env := envOf _ _ L' 91 _) (s := s) (c := c) (wsp := wsp) (exh := false) (q := q) (t := t3) (m := gm a.x it "" tt0 none) Rd O hiq hit0 hq0 B X T rfl rfl rfl rfl ?hd1 ?hu1
    (fun exh p m => ∃ tok tt chv, (∀ y, m y = gm a.x it tok tt chv y) ∧ tok.length ≤ p ∧ (if exh then (tok, codes text p) = res else tok = "" ∧ lex0 wsp (codes text p) = res)) ?turn ?done hp ?hj ?hs
  case hd1 => show dp + 1 + 10 < _; omega
  case hu1 => show un + 3 + 100 < _; omega
  case hj => exact ⟨_, _, _, fun _ => rfl, Nat.zero_le _, rfl, hres⟩
  case hs => exact ⟨_, _, _, rfl, F4, N4, lt, tw, k, l, [], hl, .nil, rfl⟩
  case done =>
    rintro exh p2 m2 s2 hp2 ⟨tok2, tt2, chv2, hm2, htl2, hre2⟩ hend ⟨h7, tk7, blk7, rfl, F7, N7, M7⟩
    have hre3 : (tok2, codes text p2) = res := by
      cases exh with
      | true => exact hre2
      | false =>
        have hpe : p2 = text.length := hend.resolve_left (by decide)
        obtain ⟨e1, e2⟩ := hre2
        have hc := codes_ge (x := text) (p := p2) (by omega)
        rw [hc] at e2 ⊢
        rw [e1, ← e2]; rfl
    clear F4 N4
    replace F7 : Fr g L' h7 (gm a.x it tok2 tt2 chv2) := Fr.congr F7 hm2
    unfold gm at F7
    (try dsimp only)
    ((repeat' (first | (k_unfold; (try dsimp only)) | ((with_reducible first | show wpAny _ _ (exec _ _) _ _ _ | show wpAny _ _ (execs _ _) _ _ _); k_fold) | (k_end; wrow_close) | walk1 | (dsimp only; walk1) | (leave1; (try dsimp only)))) <;> (repeat (k_unfold; (try dsimp only))))
    (try dsimp only)
    rename Fr _ _ _ _ => F9
    rename News _ _ _ _ => N9
    subst hre3
    exact ret _ _ _ _ F9.keep (fun r hr => ⟨(N9 r (.tail _ (.tail _ hr))).1, (N9 r (.tail _ (.tail _ hr))).2.2⟩) ⟨_, p2, rfl, hp2, rfl, M7⟩
  case turn =>
    rintro p m t' s' hlt ⟨tok, tt, chv, hm, htl, htok, hre⟩ ⟨h5, tk5, blk5, rfl, F5, N5, M5⟩
    subst htok
    clear F4 N4
    replace F5 : Fr g L' h5 (gm a.x it "" tt (some (.str (signAt text p) t'))) := Fr.congr F5 (gm_ch hm)
    obtain ⟨lt5, tw5, k5, l5, items5, hl5, hi5, rfl⟩ := M5
    cases hi5
    replace N5 : News g L' h5 ((it, citObj q t3) :: (q, methodObj (.ref 84) (.ref a.x)) :: (lexObjs w a (.int (c + nlTo text (p + 1)) lt5) (.str wsp tw5) [] k5 ++ l5)) := N5
    simp only [lexObjs, List.cons_append, List.nil_append, if_false, Bool.false_eq_true] at N5
    unfold gm at F5
    obtain ⟨cc, hsg, hcs⟩ := codes_lt hlt
    rw [hsg] at F5
    have hone := one_len cc
    (try dsimp only); (try k_fold)
    ((repeat' ((fail_if_success (with_reducible show wpAny _ _ (exec (Stmt.For _ _ _ _ _) _) _ _ _)); (fail_if_success (with_reducible show wpAny _ _ (call (Value.ref 84) _) _ _ _)); (fail_if_success (with_reducible show Left _)); (first | (k_unfold; (try dsimp only)) | ((with_reducible first | show wpAny _ _ (exec _ _) _ _ _ | show wpAny _ _ (execs _ _) _ _ _); k_fold) | (k_end; wrow_close) | walk1 | (dsimp only; walk1) | (leave1; (try dsimp only))))) <;> (repeat (k_unfold; (try dsimp only))))
    · rename ((_ == _) = true) => hb
      rename ((Str.occurrences _ _ _ _ _).isEmpty = true) => hw
      rename Fr _ _ _ _ => F6
      rename News _ _ _ _ => N6
      rw [q_lit, one_beq] at hb
      have hb : cc = 34 := eq_of_beq hb
      have hw : inWs wsp cc = false := by unfold inWs; rw [hw]; rfl
      obtain ⟨p1, hp1e⟩ : ∃ p1, p1 = p + 1 := ⟨_, rfl⟩
      rw [← hp1e] at N6 hcs hl5
      obtain ⟨tok1, tt1, chv1, F6, htl1, hre1⟩ : ∃ tok tt chv, Fr g L' _ (gm a.x it tok tt chv) ∧ tok.length ≤ p1 ∧ lexQ (codes text p1) tok = res := ⟨"", _, _, F6, Nat.zero_le _, by rw [← hre, hcs, lex0_cons, hw, hb]; rfl⟩
      have M6 : MachSt w a RO (c + nlTo text p1) wsp [] p1 _ := ⟨lt5, tw5, k5, l5, [], hl5, .nil, rfl⟩
      have hp1 : p1 ≤ text.length := by omega
      refine wpAny_For ?_
      ((repeat' ((fail_if_success (with_reducible show wpAny _ _ (pyIter _) _ _ _)); (first | (k_unfold; (try dsimp only)) | ((with_reducible first | show wpAny _ _ (exec _ _) _ _ _ | show wpAny _ _ (execs _ _) _ _ _); k_fold) | (k_end; wrow_close) | walk1 | (dsimp only; walk1) | (leave1; (try dsimp only))))) <;> (repeat (k_unfold; (try dsimp only))))
      refine pyIter_cit (N6 (it, _) (.head _)).1 rfl ?_
      (try dsimp only)
      refine' for_cit (env := envOf _ _ L' 91 _) (s := s) (c := c) (wsp := wsp) (exh := false) (q := q) (t := t3) (m := gm a.x it tok1 tt1 chv1) Rd O hiq hit0 hq0 B X T rfl rfl rfl rfl ?hd1 ?hu1
        (fun exh p m => exh = false ∧ ∃ tok tt chv, (∀ y, m y = gm a.x it tok tt chv y) ∧ tok.length ≤ p ∧ lexQ (codes text p) tok = res) ?turn ?done hp1 ?hj ?hs
      case hd1 => omega
      case hu1 => omega
      case hj => exact ⟨rfl, _, _, _, fun _ => rfl, htl1, hre1⟩
      case hs => exact ⟨_, _, _, rfl, F6, N6, M6⟩
      case done =>
        rintro exh p2 m2 s2 hp2 ⟨rfl, tok2, tt2, chv2, hm2, htl2, hre2⟩ hend ⟨h7, tk7, blk7, rfl, F7, N7, M7⟩
        have hpe : p2 = text.length := hend.resolve_left (by decide)
        have hp12 : p < text.length := hlt
        rw [codes_ge (by omega)] at hre2
        (try dsimp only)
        ((repeat' ((fail_if_success (with_reducible show Left _)); (first | (k_unfold; (try dsimp only)) | ((with_reducible first | show wpAny _ _ (exec _ _) _ _ _ | show wpAny _ _ (execs _ _) _ _ _); k_fold) | (k_end; wrow_close) | walk1 | (dsimp only; walk1) | (leave1; (try dsimp only))))) <;> (repeat (k_unfold; (try dsimp only))))
        exact ⟨true, p2, m2, by omega, by omega, ⟨tok2, tt2, chv2, hm2, htl2, by rw [codes_ge (by omega)]; exact hre2⟩, _, _, _, rfl, F7, N7, M7⟩
      case turn =>
        rintro p2 m2 t2 s2 hlt2 ⟨-, tok2, tt2, chv2, hm2, htl2, hre2⟩ ⟨h7, tk7, blk7, rfl, F7, N7, M7⟩
        clear F6 N6
        replace F7 : Fr g L' h7 (gm a.x it tok2 tt2 (some (.str (signAt text p2) t2))) := Fr.congr F7 (gm_ch hm2)
        obtain ⟨lt7, tw7, k7, l7, items7, hl7, hi7, rfl⟩ := M7
        cases hi7
        replace N7 : News g L' h7 ((it, citObj q t3) :: (q, methodObj (.ref 84) (.ref a.x)) :: (lexObjs w a (.int (c + nlTo text (p2 + 1)) lt7) (.str wsp tw7) [] k7 ++ l7)) := N7
        simp only [lexObjs, List.cons_append, List.nil_append, if_false, Bool.false_eq_true] at N7
        unfold gm at F7
        obtain ⟨cd, hsg2, hcs2⟩ := codes_lt hlt2
        rw [hsg2] at F7
        have hone2 := one_len cd
        have hsl2 := sign_len text (p2 + 1)
        (try dsimp only); (try k_fold)
        ((repeat' ((fail_if_success (with_reducible show wpAny _ _ (call (Value.ref 84) _) _ _ _)); (fail_if_success (with_reducible show Left _)); (first | (k_unfold; (try dsimp only)) | ((with_reducible first | show wpAny _ _ (exec _ _) _ _ _ | show wpAny _ _ (execs _ _) _ _ _); k_fold) | (k_end; wrow_close) | walk1 | (dsimp only; walk1) | (leave1; (try dsimp only))))) <;> (repeat (k_unfold; (try dsimp only))))
        · rename ((_ == _) = true) => hb; rw [q_lit, one_beq] at hb; have hb : cd = 34 := eq_of_beq hb; rw [hcs2, lexQ_cons, if_pos hb] at hre2; subst hre2
          (try dsimp only)
          rename Fr _ _ _ _ => F9
          rename News _ _ _ _ => N9
          exact ret _ _ _ _ F9.keep (fun r hr => ⟨(N9 r (.tail _ (.tail _ hr))).1, (N9 r (.tail _ (.tail _ hr))).2.2⟩) ⟨_, p2 + 1, rfl, hlt2, rfl, lt7, tw7, k7, l7, [], hl7, .nil, rfl⟩
        · rename ((_ == _) = true) => hb
          rw [b_lit, one_beq] at hb
          have hb : cd = 92 := eq_of_beq hb
          refine call_read (blk := lexObjs w a (.int (c + nlTo text (p2 + 1)) lt7) (.str wsp tw7) [] k7 ++ l7) (o1 := citObj q t3) (o2 := methodObj (.ref 84) (.ref a.x)) Rd O ⟨lt7, tw7, k7, l7, [], hl7, .nil, rfl⟩ hit0 hq0 B (by assumption) X T rfl rfl (by assumption) (by omega) (by omega) (by omega) ?_
          intro h8 tk8 t8 blk8 p8 hp8 F8 N8 M8
          clear F7 N7
          (try dsimp only)
          ((repeat' ((fail_if_success (with_reducible show Left _)); (first | (k_unfold; (try dsimp only)) | ((with_reducible first | show wpAny _ _ (exec _ _) _ _ _ | show wpAny _ _ (execs _ _) _ _ _); k_fold) | (k_end; wrow_close) | walk1 | (dsimp only; walk1) | (leave1; (try dsimp only))))) <;> (repeat (k_unfold; (try dsimp only))))
          (try dsimp only)
          unfold Left
          rename Fr _ _ _ _ => F9
          rename News _ _ _ _ => N9
          exact ⟨false, p8, _, by omega, by omega, ⟨rfl, tok2 ++ signAt text (p2 + 1), _, _, gm_tct, by rw [Str.length_append]; omega, (lexQ_esc hcs2 hb hp8).trans hre2⟩, _, _, blk8, rfl, F9, N9, M8⟩
        · have hb : cd ≠ 92 := by
            rename ((_ == Str.ofString "\\") = false) => hb
            rw [b_lit, one_beq] at hb
            exact fun e => by rw [e] at hb; cases hb
          have hb2 : cd ≠ 34 := by
            rename ((_ == Str.ofString "\"") = false) => hb9
            rw [q_lit, one_beq] at hb9
            exact fun e => by rw [e] at hb9; cases hb9
          (try dsimp only)
          unfold Left
          rename Fr _ _ _ _ => F9
          rename News _ _ _ _ => N9
          refine ⟨false, p2 + 1, _, by omega, by omega, ⟨rfl, tok2 ++ ⟨#[cd]⟩, _, _, gm_tt, by rw [Str.length_append]; omega, ?_⟩, _, _, _, rfl, F9, N9, lt7, tw7, k7, l7, [], hl7, .nil, rfl⟩
          rw [← hre2, hcs2, lexQ_cons, if_neg hb2, if_neg hb]
    · rename ((_ == _) = true) => hb
      rename ((Str.occurrences _ _ _ _ _).isEmpty = true) => hw
      rw [b_lit, one_beq] at hb
      have hb : cc = 92 := eq_of_beq hb
      have hw : inWs wsp cc = false := by unfold inWs; rw [hw]; rfl
      have hsl := sign_len text (p + 1)
      refine call_read (blk := lexObjs w a (.int (c + nlTo text (p + 1)) lt5) (.str wsp tw5) [] k5 ++ l5) (o1 := citObj q t3) (o2 := methodObj (.ref 84) (.ref a.x)) Rd O ⟨lt5, tw5, k5, l5, [], hl5, .nil, rfl⟩ hit0 hq0 B (by assumption) X T rfl rfl (by assumption) (by omega) (by omega) (by omega) ?_
      intro h8 tk8 t8 blk8 p8 hp8 F8 N8 M8
      clear F5 N5
      (try dsimp only)
      ((repeat' ((fail_if_success (with_reducible show wpAny _ _ (exec (Stmt.For _ _ _ _ _) _) _ _ _)); (fail_if_success (with_reducible show Left _)); (first | (k_unfold; (try dsimp only)) | ((with_reducible first | show wpAny _ _ (exec _ _) _ _ _ | show wpAny _ _ (execs _ _) _ _ _); k_fold) | (k_end; wrow_close) | walk1 | (dsimp only; walk1) | (leave1; (try dsimp only))))) <;> (repeat (k_unfold; (try dsimp only))))
      rename Fr _ _ _ _ => F6
      rename News _ _ _ _ => N6
      obtain ⟨tok1, tt1, chv1, F6, htl1, hre1⟩ : ∃ tok tt chv, Fr g L' _ (gm a.x it tok tt chv) ∧ tok.length ≤ p8 ∧ lexW wsp (codes text p8) tok = res := ⟨"" ++ signAt text (p + 1), _, _, Fr.congr F6 gm_tct, by rw [Str.length_append, show ("" : Str).length = 0 from rfl]; omega, (lex0_esc hcs hw hb hp8).trans hre⟩
      have M6 := M8
      have hp1 : p8 ≤ text.length := by omega
      have hp1e : p + 1 ≤ p8 := by omega
      refine wpAny_For ?_
      ((repeat' ((fail_if_success (with_reducible show wpAny _ _ (pyIter _) _ _ _)); (first | (k_unfold; (try dsimp only)) | ((with_reducible first | show wpAny _ _ (exec _ _) _ _ _ | show wpAny _ _ (execs _ _) _ _ _); k_fold) | (k_end; wrow_close) | walk1 | (dsimp only; walk1) | (leave1; (try dsimp only))))) <;> (repeat (k_unfold; (try dsimp only))))
      refine pyIter_cit (N6 (it, _) (.head _)).1 rfl ?_
      (try dsimp only)
      refine' for_cit (env := envOf _ _ L' 91 _) (s := s) (c := c) (wsp := wsp) (exh := false) (q := q) (t := t3) (m := gm a.x it tok1 tt1 chv1) Rd O hiq hit0 hq0 B X T rfl rfl rfl rfl ?hd1 ?hu1
        (fun exh p m => exh = false ∧ ∃ tok tt chv, (∀ y, m y = gm a.x it tok tt chv y) ∧ tok.length ≤ p ∧ lexW wsp (codes text p) tok = res) ?turn ?done hp1 ?hj ?hs
      case hd1 => omega
      case hu1 => omega
      case hj => exact ⟨rfl, _, _, _, fun _ => rfl, htl1, hre1⟩
      case hs => exact ⟨_, _, _, rfl, F6, N6, M6⟩
      case done =>
        rintro exh p2 m2 s2 hp2 ⟨rfl, tok2, tt2, chv2, hm2, htl2, hre2⟩ hend ⟨h7, tk7, blk7, rfl, F7, N7, M7⟩
        have hpe : p2 = text.length := hend.resolve_left (by decide)
        have hp12 : p < text.length := hlt
        rw [codes_ge (by omega)] at hre2
        (try dsimp only)
        ((repeat' ((fail_if_success (with_reducible show Left _)); (first | (k_unfold; (try dsimp only)) | ((with_reducible first | show wpAny _ _ (exec _ _) _ _ _ | show wpAny _ _ (execs _ _) _ _ _); k_fold) | (k_end; wrow_close) | walk1 | (dsimp only; walk1) | (leave1; (try dsimp only))))) <;> (repeat (k_unfold; (try dsimp only))))
        exact ⟨true, p2, m2, by omega, by omega, ⟨tok2, tt2, chv2, hm2, htl2, by rw [codes_ge (by omega)]; exact hre2⟩, _, _, _, rfl, F7, N7, M7⟩
      case turn =>
        rintro p2 m2 t2 s2 hlt2 ⟨-, tok2, tt2, chv2, hm2, htl2, hre2⟩ ⟨h7, tk7, blk7, rfl, F7, N7, M7⟩
        clear F6 N6
        replace F7 : Fr g L' h7 (gm a.x it tok2 tt2 (some (.str (signAt text p2) t2))) := Fr.congr F7 (gm_ch hm2)
        obtain ⟨lt7, tw7, k7, l7, items7, hl7, hi7, rfl⟩ := M7
        cases hi7
        replace N7 : News g L' h7 ((it, citObj q t3) :: (q, methodObj (.ref 84) (.ref a.x)) :: (lexObjs w a (.int (c + nlTo text (p2 + 1)) lt7) (.str wsp tw7) [] k7 ++ l7)) := N7
        simp only [lexObjs, List.cons_append, List.nil_append, if_false, Bool.false_eq_true] at N7
        unfold gm at F7
        obtain ⟨cd, hsg2, hcs2⟩ := codes_lt hlt2
        rw [hsg2] at F7
        have hone2 := one_len cd
        have hsl2 := sign_len text (p2 + 1)
        (try dsimp only); (try k_fold)
        ((repeat' ((fail_if_success (with_reducible show wpAny _ _ (call (Value.ref 84) _) _ _ _)); (fail_if_success (with_reducible show Left _)); (first | (k_unfold; (try dsimp only)) | ((with_reducible first | show wpAny _ _ (exec _ _) _ _ _ | show wpAny _ _ (execs _ _) _ _ _); k_fold) | (k_end; wrow_close) | walk1 | (dsimp only; walk1) | (leave1; (try dsimp only))))) <;> (repeat (k_unfold; (try dsimp only))))
        · rename ((_ == _) = true) => hb
          rw [b_lit, one_beq] at hb
          have hb : cd = 92 := eq_of_beq hb
          rename ((Str.occurrences _ _ _ _ _).isEmpty = true) => hw
          have hw : inWs wsp cd = false := by unfold inWs; rw [hw]; rfl
          refine call_read (blk := lexObjs w a (.int (c + nlTo text (p2 + 1)) lt7) (.str wsp tw7) [] k7 ++ l7) (o1 := citObj q t3) (o2 := methodObj (.ref 84) (.ref a.x)) Rd O ⟨lt7, tw7, k7, l7, [], hl7, .nil, rfl⟩ hit0 hq0 B (by assumption) X T rfl rfl (by assumption) (by omega) (by omega) (by omega) ?_
          intro h8 tk8 t8 blk8 p8 hp8 F8 N8 M8
          clear F7 N7
          (try dsimp only)
          ((repeat' ((fail_if_success (with_reducible show Left _)); (first | (k_unfold; (try dsimp only)) | ((with_reducible first | show wpAny _ _ (exec _ _) _ _ _ | show wpAny _ _ (execs _ _) _ _ _); k_fold) | (k_end; wrow_close) | walk1 | (dsimp only; walk1) | (leave1; (try dsimp only))))) <;> (repeat (k_unfold; (try dsimp only))))
          (try dsimp only)
          unfold Left
          rename Fr _ _ _ _ => F9
          rename News _ _ _ _ => N9
          exact ⟨false, p8, _, by omega, by omega, ⟨rfl, tok2 ++ signAt text (p2 + 1), _, _, gm_tct, by rw [Str.length_append]; omega, (lexW_esc hcs2 hw hb hp8).trans hre2⟩, _, _, blk8, rfl, F9, N9, M8⟩
        · have hb : cd ≠ 92 := by
            rename ((_ == Str.ofString "\\") = false) => hb
            rw [b_lit, one_beq] at hb
            exact fun e => by rw [e] at hb; cases hb
          rename ((Str.occurrences _ _ _ _ _).isEmpty = true) => hw
          have hw : inWs wsp cd = false := by unfold inWs; rw [hw]; rfl
          (try dsimp only)
          unfold Left
          rename Fr _ _ _ _ => F9
          rename News _ _ _ _ => N9
          refine ⟨false, p2 + 1, _, by omega, by omega, ⟨rfl, tok2 ++ ⟨#[cd]⟩, _, _, gm_tt, by rw [Str.length_append]; omega, ?_⟩, _, _, _, rfl, F9, N9, lt7, tw7, k7, l7, [], hl7, .nil, rfl⟩
          rw [← hre2, hcs2, lexW_cons, hw, if_neg (by decide), if_neg hb]
        · rename ((Str.occurrences _ _ _ _ _).isEmpty = false) => hw; have hw : inWs wsp cd = true := by (unfold inWs; rw [hw]; rfl)
          rw [hcs2, lexW_cons, if_pos hw] at hre2; subst hre2
          (try dsimp only)
          rename Fr _ _ _ _ => F9
          rename News _ _ _ _ => N9
          exact ret _ _ _ _ F9.keep (fun r hr => ⟨(N9 r (.tail _ (.tail _ hr))).1, (N9 r (.tail _ (.tail _ hr))).2.2⟩) ⟨_, p2 + 1, rfl, hlt2, rfl, lt7, tw7, k7, l7, [], hl7, .nil, rfl⟩
    · have hb : cc ≠ 92 := by
        rename ((_ == Str.ofString "\\") = false) => hb9
        rw [b_lit, one_beq] at hb9
        exact fun e => by rw [e] at hb9; cases hb9
      have hb2 : cc ≠ 34 := by
        rename ((_ == Str.ofString "\"") = false) => hb9
        rw [q_lit, one_beq] at hb9
        exact fun e => by rw [e] at hb9; cases hb9
      rename ((Str.occurrences _ _ _ _ _).isEmpty = true) => hw
      have hw : inWs wsp cc = false := by unfold inWs; rw [hw]; rfl
      rename Fr _ _ _ _ => F6
      rename News _ _ _ _ => N6
      obtain ⟨p1, hp1e⟩ : ∃ p1, p1 = p + 1 := ⟨_, rfl⟩
      rw [← hp1e] at N6 hcs hl5
      obtain ⟨tok1, tt1, chv1, F6, htl1, hre1⟩ : ∃ tok tt chv, Fr g L' _ (gm a.x it tok tt chv) ∧ tok.length ≤ p1 ∧ lexW wsp (codes text p1) tok = res := ⟨"" ++ ⟨#[cc]⟩, _, _, Fr.congr F6 gm_tt, by rw [Str.length_append, show ("" : Str).length = 0 from rfl]; omega, by rw [← hre, hcs, lex0_cons, hw, if_neg (by decide), if_neg hb2, if_neg hb]⟩
      have M6 : MachSt w a RO (c + nlTo text p1) wsp [] p1 _ := ⟨lt5, tw5, k5, l5, [], hl5, .nil, rfl⟩
      have hp1 : p1 ≤ text.length := by omega
      refine wpAny_For ?_
      ((repeat' ((fail_if_success (with_reducible show wpAny _ _ (pyIter _) _ _ _)); (first | (k_unfold; (try dsimp only)) | ((with_reducible first | show wpAny _ _ (exec _ _) _ _ _ | show wpAny _ _ (execs _ _) _ _ _); k_fold) | (k_end; wrow_close) | walk1 | (dsimp only; walk1) | (leave1; (try dsimp only))))) <;> (repeat (k_unfold; (try dsimp only))))
      refine pyIter_cit (N6 (it, _) (.head _)).1 rfl ?_
      (try dsimp only)
      refine' for_cit (env := envOf _ _ L' 91 _) (s := s) (c := c) (wsp := wsp) (exh := false) (q := q) (t := t3) (m := gm a.x it tok1 tt1 chv1) Rd O hiq hit0 hq0 B X T rfl rfl rfl rfl ?hd1 ?hu1
        (fun exh p m => exh = false ∧ ∃ tok tt chv, (∀ y, m y = gm a.x it tok tt chv y) ∧ tok.length ≤ p ∧ lexW wsp (codes text p) tok = res) ?turn ?done hp1 ?hj ?hs
      case hd1 => omega
      case hu1 => omega
      case hj => exact ⟨rfl, _, _, _, fun _ => rfl, htl1, hre1⟩
      case hs => exact ⟨_, _, _, rfl, F6, N6, M6⟩
      case done =>
        rintro exh p2 m2 s2 hp2 ⟨rfl, tok2, tt2, chv2, hm2, htl2, hre2⟩ hend ⟨h7, tk7, blk7, rfl, F7, N7, M7⟩
        have hpe : p2 = text.length := hend.resolve_left (by decide)
        have hp12 : p < text.length := hlt
        rw [codes_ge (by omega)] at hre2
        (try dsimp only)
        ((repeat' ((fail_if_success (with_reducible show Left _)); (first | (k_unfold; (try dsimp only)) | ((with_reducible first | show wpAny _ _ (exec _ _) _ _ _ | show wpAny _ _ (execs _ _) _ _ _); k_fold) | (k_end; wrow_close) | walk1 | (dsimp only; walk1) | (leave1; (try dsimp only))))) <;> (repeat (k_unfold; (try dsimp only))))
        exact ⟨true, p2, m2, by omega, by omega, ⟨tok2, tt2, chv2, hm2, htl2, by rw [codes_ge (by omega)]; exact hre2⟩, _, _, _, rfl, F7, N7, M7⟩
      case turn =>
        rintro p2 m2 t2 s2 hlt2 ⟨-, tok2, tt2, chv2, hm2, htl2, hre2⟩ ⟨h7, tk7, blk7, rfl, F7, N7, M7⟩
        clear F6 N6
        replace F7 : Fr g L' h7 (gm a.x it tok2 tt2 (some (.str (signAt text p2) t2))) := Fr.congr F7 (gm_ch hm2)
        obtain ⟨lt7, tw7, k7, l7, items7, hl7, hi7, rfl⟩ := M7
        cases hi7
        replace N7 : News g L' h7 ((it, citObj q t3) :: (q, methodObj (.ref 84) (.ref a.x)) :: (lexObjs w a (.int (c + nlTo text (p2 + 1)) lt7) (.str wsp tw7) [] k7 ++ l7)) := N7
        simp only [lexObjs, List.cons_append, List.nil_append, if_false, Bool.false_eq_true] at N7
        unfold gm at F7
        obtain ⟨cd, hsg2, hcs2⟩ := codes_lt hlt2
        rw [hsg2] at F7
        have hone2 := one_len cd
        have hsl2 := sign_len text (p2 + 1)
        (try dsimp only); (try k_fold)
        ((repeat' ((fail_if_success (with_reducible show wpAny _ _ (call (Value.ref 84) _) _ _ _)); (fail_if_success (with_reducible show Left _)); (first | (k_unfold; (try dsimp only)) | ((with_reducible first | show wpAny _ _ (exec _ _) _ _ _ | show wpAny _ _ (execs _ _) _ _ _); k_fold) | (k_end; wrow_close) | walk1 | (dsimp only; walk1) | (leave1; (try dsimp only))))) <;> (repeat (k_unfold; (try dsimp only))))
        · rename ((_ == _) = true) => hb
          rw [b_lit, one_beq] at hb
          have hb : cd = 92 := eq_of_beq hb
          rename ((Str.occurrences _ _ _ _ _).isEmpty = true) => hw
          have hw : inWs wsp cd = false := by unfold inWs; rw [hw]; rfl
          refine call_read (blk := lexObjs w a (.int (c + nlTo text (p2 + 1)) lt7) (.str wsp tw7) [] k7 ++ l7) (o1 := citObj q t3) (o2 := methodObj (.ref 84) (.ref a.x)) Rd O ⟨lt7, tw7, k7, l7, [], hl7, .nil, rfl⟩ hit0 hq0 B (by assumption) X T rfl rfl (by assumption) (by omega) (by omega) (by omega) ?_
          intro h8 tk8 t8 blk8 p8 hp8 F8 N8 M8
          clear F7 N7
          (try dsimp only)
          ((repeat' ((fail_if_success (with_reducible show Left _)); (first | (k_unfold; (try dsimp only)) | ((with_reducible first | show wpAny _ _ (exec _ _) _ _ _ | show wpAny _ _ (execs _ _) _ _ _); k_fold) | (k_end; wrow_close) | walk1 | (dsimp only; walk1) | (leave1; (try dsimp only))))) <;> (repeat (k_unfold; (try dsimp only))))
          (try dsimp only)
          unfold Left
          rename Fr _ _ _ _ => F9
          rename News _ _ _ _ => N9
          exact ⟨false, p8, _, by omega, by omega, ⟨rfl, tok2 ++ signAt text (p2 + 1), _, _, gm_tct, by rw [Str.length_append]; omega, (lexW_esc hcs2 hw hb hp8).trans hre2⟩, _, _, blk8, rfl, F9, N9, M8⟩
        · have hb : cd ≠ 92 := by
            rename ((_ == Str.ofString "\\") = false) => hb
            rw [b_lit, one_beq] at hb
            exact fun e => by rw [e] at hb; cases hb
          rename ((Str.occurrences _ _ _ _ _).isEmpty = true) => hw
          have hw : inWs wsp cd = false := by unfold inWs; rw [hw]; rfl
          (try dsimp only)
          unfold Left
          rename Fr _ _ _ _ => F9
          rename News _ _ _ _ => N9
          refine ⟨false, p2 + 1, _, by omega, by omega, ⟨rfl, tok2 ++ ⟨#[cd]⟩, _, _, gm_tt, by rw [Str.length_append]; omega, ?_⟩, _, _, _, rfl, F9, N9, lt7, tw7, k7, l7, [], hl7, .nil, rfl⟩
          rw [← hre2, hcs2, lexW_cons, hw, if_neg (by decide), if_neg hb]
        · rename ((Str.occurrences _ _ _ _ _).isEmpty = false) => hw; have hw : inWs wsp cd = true := by (unfold inWs; rw [hw]; rfl)
          rw [hcs2, lexW_cons, if_pos hw] at hre2; subst hre2
          (try dsimp only)
          rename Fr _ _ _ _ => F9
          rename News _ _ _ _ => N9
          exact ret _ _ _ _ F9.keep (fun r hr => ⟨(N9 r (.tail _ (.tail _ hr))).1, (N9 r (.tail _ (.tail _ hr))).2.2⟩) ⟨_, p2 + 1, rfl, hlt2, rfl, lt7, tw7, k7, l7, [], hl7, .nil, rfl⟩
    · rename ((Str.occurrences _ _ _ _ _).isEmpty = false) => hw
      have hw : inWs wsp cc = true := by unfold inWs; rw [hw]; rfl
      (try dsimp only)
      unfold Left
      rename Fr _ _ _ _ => F9
      rename News _ _ _ _ => N9
      exact ⟨false, p + 1, _, by omega, by omega, ⟨"", _, _, fun _ => rfl, Nat.zero_le _, rfl, by rw [← hre, hcs, lex0_cons, hw]; rfl⟩, _, _, _, rfl, F9, N9, lt5, tw5, k5, l5, [], hl5, .nil, rfl⟩
end

theorem slice_sign {x : Str} {p : Nat} (h : p ≤ x.length) : Txt.slice x (some (p : Int)) (some ((p : Int) + 1)) = signAt x p := by
  rcases Nat.lt_or_ge p x.length with hlt | hge
  · have e := beq_iff_eq.mp (slice_closesL (x := x) (i := (p : Int)) (j := (p : Int) + 1) (by omega) (by omega) (by omega))
    rw [e, signAt_lt (by rw [← len_cps]; exact hlt)]
    have h2 : p < x.cps.toList.length := by rw [← len_cps]; exact hlt
    have e1 : ((p : Int) + 1 - (p : Int)).toNat = 1 := by omega
    simp [e1, List.take_one, List.head?_drop, List.getElem?_eq_getElem h2]
  · have hpe : p = x.length := Nat.le_antisymm h hge
    rw [signAt_ge (by rw [← len_cps]; exact hge)]
    have e : Builtin.Str.strSliceIndices (some (p : Int)) (some ((p : Int) + 1)) 1 x.length = [] := by
      unfold Builtin.Str.strSliceIndices
      subst hpe
      simp [sliceRange]
      omega
    unfold Txt.slice
    rw [e]
    split
    · rename_i h9
      have h0 : 0 = x.length := by simpa using h9
      have h1 : x.cps = #[] := Array.size_eq_zero_iff.mp h0.symm
      cases x; cases h1; rfl
    · rfl
theorem reader_of (w : World) (text : Str) (rd c atl cA cT : Addr) (oc oA oT : Obj) (name qual : Str) (params : Arguments) (body : List Stmt) (scope : Scope) (doc pm ct : Value) (vs : Array Value) (tq tt : Tok)
    (hdef : nestedDef ((hd.heap_1 w.params).lookup 178) 1 = some (params, body, scope)) (hcd : oc.data = .fields vs) (hvs : vs[1]? = some (.str qual tq)) (hA : oA.data = .cell (some (.ref atl))) (hT : oT.data = .cell (some (.str text tt)))
    (n1 : atl ≠ rd) (n2 : atl ≠ c) (n3 : atl ≠ cA) (n4 : atl ≠ cT) (hlen : text.length < 100000) :
    Reader w rd text [rd, c, atl, cA, cT] (fun p l => p ≤ text.length ∧ ∃ tk k, l = [(rd, { cls := .type "function", data := .func (fnX name qual params body scope [("text", cT), ("at", cA)] .none .none doc pm none (.ref c) ct) }), (c, oc), (atl, listOf #[.int p tk] k), (cA, oA), (cT, oT)]) := by
  refine ⟨?_, ?_, ?_⟩
  · rintro p l ⟨-, tk, k, rfl⟩; rfl
  · rintro p l ⟨-, tk, k, rfl⟩; exact ⟨_, _, .head _, rfl⟩
  rintro p l t ⟨hp, tk, k, rfl⟩
  revert hdef
  unfold Con
  k_fill
  intro hdef dp un gd outer base g tp tl mean mg mb s R B hg hsz hsel X T hd hu ret
  refine' nested_out ?hl hdef ?_
  (case hl => k_is)
  clear hdef
  intro hdef
  cases hdef
  refine' enter_m hg hsz hsel T (.head _) rfl (.tail _ (.head _)) hcd hvs ?k8 ?k9 ?kB ?_ ?c2 ?c3 ?c4 ?c5
  (case k8 => k_room); (case k9 => exact BindsTo.of_eq rfl); (case c5 => decide); (case kB => exact locs rfl); (case c2 => exact rfl); (case c3 => exact rfl); (case c4 => exact rfl)
  intro L' h' tk' F' N' l1
  (try dsimp only); (try k_fold)
  ((repeat' (first | ((with_reducible show wpAny _ _ (eval (Expr.Name (Str.ofString "text") _) _) _ _ _); refine nameX_F (x := "text") (by assumption) rfl (by k_mem) hT ?_) | ((with_reducible show wpAny _ _ (eval (Expr.Name (Str.ofString "at") _) _) _ _ _); refine nameX_F (x := "at") (by assumption) rfl (by k_mem) hA ?_) | (k_unfold; (try dsimp only)) | ((with_reducible first | show wpAny _ _ (exec _ _) _ _ _ | show wpAny _ _ (execs _ _) _ _ _); k_fold) | (k_end; wrow_close) | walk1 | (dsimp only; walk1) | (leave1; (try dsimp only)))) <;> (repeat (k_unfold; (try dsimp only))))
  have e0 : ([(p : Int)].getD (Int.toNat 0) 0) = (p : Int) := rfl
  rw [e0, slice_sign hp]
  rename Fr _ _ _ _ => F9
  rename News _ _ _ _ => N9
  rw [e0, slice_sign hp] at N9
  have e1 : ((p : Int) + ((signAt text p).length : Nat)) = ((min (p + 1) text.length : Nat) : Int) := by
    rcases Nat.lt_or_ge p text.length with hlt | hge
    · rw [signAt_lt (by rw [← len_cps]; exact hlt), Nat.min_eq_left hlt]; rfl
    · rw [signAt_ge (by rw [← len_cps]; exact hge), Nat.min_eq_right (by omega), Nat.le_antisymm hp hge]; simp [Str.length]
  rw [e1] at N9
  refine ret _ _ _ _ F9.keep (fun r hr => ⟨(N9 r hr).1, (N9 r hr).2.2⟩) ⟨⟨Nat.min_le_right _ _, ?_, k, ?_⟩, _, rfl⟩
  rotate_left
  exact rfl
theorem mach_end {w : World} {x : Str} {g h : Heap} {L : Addr} {news : List (Addr × Obj)} {x' dx pb st std rd c atl cA cT : Addr} {t1 t2 t3 t4 td tw lt tk tq tt : Tok} {k k2 : Nat} {fd : FuncData} {sl : Array (Option Value)} {oc oA oT : Obj}
    {name qual : Str} {params : Arguments} {body : List Stmt} {scope : Scope} {doc pm ct : Value} {vs tab : Array Value} (N : News g L h news)
    (m1 : (x', instObj 101 dx) ∈ news)
    (m2 : (dx, dictOf [⟨PyData.keyHash w.params "lineno", .str "lineno" t1, .int 1 lt⟩, ⟨PyData.keyHash w.params "instream", .str "instream" t2, .ref st⟩, ⟨PyData.keyHash w.params "whitespace", .str "whitespace" t3, .str "\n\t\r " tw⟩, ⟨PyData.keyHash w.params "pushback", .str "pushback" t4, .ref pb⟩] 4) ∈ news)
    (m3 : (pb, listOf #[] k) ∈ news) (m4 : (st, ⟨.type "function", some std, .func fd, sl⟩) ∈ news) (m5 : (std, dictOf [⟨PyData.keyHash w.params "read", .str "read" td, .ref rd⟩] 1) ∈ news)
    (m6 : (rd, { cls := .type "function", data := .func (fnX name qual params body scope [("text", cT), ("at", cA)] .none .none doc pm none (.ref c) ct) }) ∈ news) (m7 : (c, oc) ∈ news) (m8 : (atl, listOf #[.int 0 tk] k2) ∈ news) (m9 : (cA, oA) ∈ news) (m10 : (cT, oT) ∈ news) (m11 : (173, tabObj tab) ∈ news)
    (hdef : nestedDef ((hd.heap_1 w.params).lookup 178) 1 = some (params, body, scope)) (hcd : oc.data = .fields vs) (hvs : vs[1]? = some (.str qual tq)) (hA : oA.data = .cell (some (.ref atl))) (hT : oT.data = .cell (some (.str x tt))) (hx : x.length < 100000)
    (o1 : (173 : Nat) < cT) (o2 : cT < cA) (o3 : cA < atl) (o4 : atl < c) (o5 : c < rd) (o6 : rd < st) (o7 : st < std) (o8 : std < dx) (o9 : dx < x') (o10 : x' < pb) :
    ∃ sel', (∀ p ∈ sel', h.get? p.1 = some p.2 ∧ g.get? p.1 = none) ∧ ∃ a adr RO blk tab, Reader w a.rd x adr RO ∧ LexA.Ok a adr ∧ Value.ref x' = .ref a.x ∧ MachSt w a RO 1 "\n\t\r " [] 0 blk ∧ sel' = blk ++ [(173, tabObj tab)] ∧ 173 ∉ [a.x, a.dx, a.pb, a.st, a.std] ++ adr := by
  have q1 := neN (Nat.ne_of_gt o4)
  refine ⟨_, ?_, ⟨x', dx, pb, st, std, rd, t1, t2, t3, t4, td, fd, sl⟩, [rd, c, atl, cA, cT], _, _, tab,
    reader_of w x rd c atl cA cT oc oA oT name qual params body scope doc pm ct vs tq tt hdef hcd hvs hA hT (Nat.ne_of_lt (Nat.lt_trans o4 o5)) (Nat.ne_of_lt o4) (Nat.ne_of_gt o3) (Nat.ne_of_gt (Nat.lt_trans o2 o3)) hx,
    ?_, rfl, ⟨lt, tw, k, _, [], ⟨Nat.zero_le _, tk, k2, rfl⟩, .nil, rfl⟩, rfl, ?_⟩
  · have hm : ∀ p ∈ _, p ∈ news := List.forall_mem_cons.mpr ⟨m1, List.forall_mem_cons.mpr ⟨m2, List.forall_mem_cons.mpr ⟨m3, List.forall_mem_cons.mpr ⟨m4, List.forall_mem_cons.mpr ⟨m5, List.forall_mem_cons.mpr ⟨m6, List.forall_mem_cons.mpr ⟨m7, List.forall_mem_cons.mpr ⟨m8, List.forall_mem_cons.mpr ⟨m9, List.forall_mem_cons.mpr ⟨m10, List.forall_mem_cons.mpr ⟨m11, List.forall_mem_nil _⟩⟩⟩⟩⟩⟩⟩⟩⟩⟩⟩
    exact fun p hp => ⟨(N p (hm p hp)).1, (N p (hm p hp)).2.2⟩
  · have a1 : (173 : Nat) < cT := o1
    have a2 : @LT.lt Nat _ cT cA := o2
    have a3 : @LT.lt Nat _ cA atl := o3
    have a4 : @LT.lt Nat _ atl c := o4
    have a5 : @LT.lt Nat _ c rd := o5
    have a6 : @LT.lt Nat _ rd st := o6
    have a7 : @LT.lt Nat _ st std := o7
    have a8 : @LT.lt Nat _ std dx := o8
    have a9 : @LT.lt Nat _ dx x' := o9
    have a10 : @LT.lt Nat _ x' pb := o10
    refine ⟨neN ?_, neN ?_, neN ?_, neN ?_, neN ?_, neN ?_, neN ?_, ?_, ?_, ?_, ?_, ?_⟩
    all_goals first | ((try dsimp only); omega) | (simp only [List.mem_cons, List.not_mem_nil, or_false, not_or]; exact ⟨(by first | (refine neN (Nat.ne_of_gt ?_); with_reducible ((repeat (first | assumption | exact And.left (by assumption) | exact And.left (And.right (by assumption)) | exact And.right (And.right (by assumption)) | exact And.right (by assumption) | exact And.left (And.right (And.right (by assumption))) | exact And.right (And.right (And.right (by assumption))) | exact And.left (And.right (And.right (And.right (by assumption)))) | exact And.left (And.right (And.right (And.right (And.right (by assumption))))) | refine Nat.lt_trans ?_ (by assumption))); done)) | (refine neN (Nat.ne_of_lt ?_); with_reducible ((repeat (first | assumption | exact And.left (by assumption) | exact And.left (And.right (by assumption)) | exact And.right (And.right (by assumption)) | exact And.right (by assumption) | exact And.left (And.right (And.right (by assumption))) | exact And.right (And.right (And.right (by assumption))) | exact And.left (And.right (And.right (And.right (by assumption)))) | exact And.left (And.right (And.right (And.right (And.right (by assumption))))) | refine Nat.lt_trans ?_ (by assumption))); done)) | omega), (by first | (refine neN (Nat.ne_of_gt ?_); with_reducible ((repeat (first | assumption | exact And.left (by assumption) | exact And.left (And.right (by assumption)) | exact And.right (And.right (by assumption)) | exact And.right (by assumption) | exact And.left (And.right (And.right (by assumption))) | exact And.right (And.right (And.right (by assumption))) | exact And.left (And.right (And.right (And.right (by assumption)))) | exact And.left (And.right (And.right (And.right (And.right (by assumption))))) | refine Nat.lt_trans ?_ (by assumption))); done)) | (refine neN (Nat.ne_of_lt ?_); with_reducible ((repeat (first | assumption | exact And.left (by assumption) | exact And.left (And.right (by assumption)) | exact And.right (And.right (by assumption)) | exact And.right (by assumption) | exact And.left (And.right (And.right (by assumption))) | exact And.right (And.right (And.right (by assumption))) | exact And.left (And.right (And.right (And.right (by assumption)))) | exact And.left (And.right (And.right (And.right (And.right (by assumption))))) | refine Nat.lt_trans ?_ (by assumption))); done)) | omega), (by first | (refine neN (Nat.ne_of_gt ?_); with_reducible ((repeat (first | assumption | exact And.left (by assumption) | exact And.left (And.right (by assumption)) | exact And.right (And.right (by assumption)) | exact And.right (by assumption) | exact And.left (And.right (And.right (by assumption))) | exact And.right (And.right (And.right (by assumption))) | exact And.left (And.right (And.right (And.right (by assumption)))) | exact And.left (And.right (And.right (And.right (And.right (by assumption))))) | refine Nat.lt_trans ?_ (by assumption))); done)) | (refine neN (Nat.ne_of_lt ?_); with_reducible ((repeat (first | assumption | exact And.left (by assumption) | exact And.left (And.right (by assumption)) | exact And.right (And.right (by assumption)) | exact And.right (by assumption) | exact And.left (And.right (And.right (by assumption))) | exact And.right (And.right (And.right (by assumption))) | exact And.left (And.right (And.right (And.right (by assumption)))) | exact And.left (And.right (And.right (And.right (And.right (by assumption))))) | refine Nat.lt_trans ?_ (by assumption))); done)) | omega), (by first | (refine neN (Nat.ne_of_gt ?_); with_reducible ((repeat (first | assumption | exact And.left (by assumption) | exact And.left (And.right (by assumption)) | exact And.right (And.right (by assumption)) | exact And.right (by assumption) | exact And.left (And.right (And.right (by assumption))) | exact And.right (And.right (And.right (by assumption))) | exact And.left (And.right (And.right (And.right (by assumption)))) | exact And.left (And.right (And.right (And.right (And.right (by assumption))))) | refine Nat.lt_trans ?_ (by assumption))); done)) | (refine neN (Nat.ne_of_lt ?_); with_reducible ((repeat (first | assumption | exact And.left (by assumption) | exact And.left (And.right (by assumption)) | exact And.right (And.right (by assumption)) | exact And.right (by assumption) | exact And.left (And.right (And.right (by assumption))) | exact And.right (And.right (And.right (by assumption))) | exact And.left (And.right (And.right (And.right (by assumption)))) | exact And.left (And.right (And.right (And.right (And.right (by assumption))))) | refine Nat.lt_trans ?_ (by assumption))); done)) | omega), (by first | (refine neN (Nat.ne_of_gt ?_); with_reducible ((repeat (first | assumption | exact And.left (by assumption) | exact And.left (And.right (by assumption)) | exact And.right (And.right (by assumption)) | exact And.right (by assumption) | exact And.left (And.right (And.right (by assumption))) | exact And.right (And.right (And.right (by assumption))) | exact And.left (And.right (And.right (And.right (by assumption)))) | exact And.left (And.right (And.right (And.right (And.right (by assumption))))) | refine Nat.lt_trans ?_ (by assumption))); done)) | (refine neN (Nat.ne_of_lt ?_); with_reducible ((repeat (first | assumption | exact And.left (by assumption) | exact And.left (And.right (by assumption)) | exact And.right (And.right (by assumption)) | exact And.right (by assumption) | exact And.left (And.right (And.right (by assumption))) | exact And.right (And.right (And.right (by assumption))) | exact And.left (And.right (And.right (And.right (by assumption)))) | exact And.left (And.right (And.right (And.right (And.right (by assumption))))) | refine Nat.lt_trans ?_ (by assumption))); done)) | omega)⟩)
  · have a1 : (173 : Nat) < cT := o1
    have a2 : @LT.lt Nat _ cT cA := o2
    have a3 : @LT.lt Nat _ cA atl := o3
    have a4 : @LT.lt Nat _ atl c := o4
    have a5 : @LT.lt Nat _ c rd := o5
    have a6 : @LT.lt Nat _ rd st := o6
    have a7 : @LT.lt Nat _ st std := o7
    have a8 : @LT.lt Nat _ std dx := o8
    have a9 : @LT.lt Nat _ dx x' := o9
    have a10 : @LT.lt Nat _ x' pb := o10
    simp only [List.cons_append, List.nil_append, List.mem_cons, List.not_mem_nil, or_false, not_or]
    exact ⟨(by first | (refine neN (Nat.ne_of_gt ?_); with_reducible ((repeat (first | assumption | exact And.left (by assumption) | exact And.left (And.right (by assumption)) | exact And.right (And.right (by assumption)) | exact And.right (by assumption) | exact And.left (And.right (And.right (by assumption))) | exact And.right (And.right (And.right (by assumption))) | exact And.left (And.right (And.right (And.right (by assumption)))) | exact And.left (And.right (And.right (And.right (And.right (by assumption))))) | refine Nat.lt_trans ?_ (by assumption))); done)) | (refine neN (Nat.ne_of_lt ?_); with_reducible ((repeat (first | assumption | exact And.left (by assumption) | exact And.left (And.right (by assumption)) | exact And.right (And.right (by assumption)) | exact And.right (by assumption) | exact And.left (And.right (And.right (by assumption))) | exact And.right (And.right (And.right (by assumption))) | exact And.left (And.right (And.right (And.right (by assumption)))) | exact And.left (And.right (And.right (And.right (And.right (by assumption))))) | refine Nat.lt_trans ?_ (by assumption))); done)) | omega), (by first | (refine neN (Nat.ne_of_gt ?_); with_reducible ((repeat (first | assumption | exact And.left (by assumption) | exact And.left (And.right (by assumption)) | exact And.right (And.right (by assumption)) | exact And.right (by assumption) | exact And.left (And.right (And.right (by assumption))) | exact And.right (And.right (And.right (by assumption))) | exact And.left (And.right (And.right (And.right (by assumption)))) | exact And.left (And.right (And.right (And.right (And.right (by assumption))))) | refine Nat.lt_trans ?_ (by assumption))); done)) | (refine neN (Nat.ne_of_lt ?_); with_reducible ((repeat (first | assumption | exact And.left (by assumption) | exact And.left (And.right (by assumption)) | exact And.right (And.right (by assumption)) | exact And.right (by assumption) | exact And.left (And.right (And.right (by assumption))) | exact And.right (And.right (And.right (by assumption))) | exact And.left (And.right (And.right (And.right (by assumption)))) | exact And.left (And.right (And.right (And.right (And.right (by assumption))))) | refine Nat.lt_trans ?_ (by assumption))); done)) | omega), (by first | (refine neN (Nat.ne_of_gt ?_); with_reducible ((repeat (first | assumption | exact And.left (by assumption) | exact And.left (And.right (by assumption)) | exact And.right (And.right (by assumption)) | exact And.right (by assumption) | exact And.left (And.right (And.right (by assumption))) | exact And.right (And.right (And.right (by assumption))) | exact And.left (And.right (And.right (And.right (by assumption)))) | exact And.left (And.right (And.right (And.right (And.right (by assumption))))) | refine Nat.lt_trans ?_ (by assumption))); done)) | (refine neN (Nat.ne_of_lt ?_); with_reducible ((repeat (first | assumption | exact And.left (by assumption) | exact And.left (And.right (by assumption)) | exact And.right (And.right (by assumption)) | exact And.right (by assumption) | exact And.left (And.right (And.right (by assumption))) | exact And.right (And.right (And.right (by assumption))) | exact And.left (And.right (And.right (And.right (by assumption)))) | exact And.left (And.right (And.right (And.right (And.right (by assumption))))) | refine Nat.lt_trans ?_ (by assumption))); done)) | omega), (by first | (refine neN (Nat.ne_of_gt ?_); with_reducible ((repeat (first | assumption | exact And.left (by assumption) | exact And.left (And.right (by assumption)) | exact And.right (And.right (by assumption)) | exact And.right (by assumption) | exact And.left (And.right (And.right (by assumption))) | exact And.right (And.right (And.right (by assumption))) | exact And.left (And.right (And.right (And.right (by assumption)))) | exact And.left (And.right (And.right (And.right (And.right (by assumption))))) | refine Nat.lt_trans ?_ (by assumption))); done)) | (refine neN (Nat.ne_of_lt ?_); with_reducible ((repeat (first | assumption | exact And.left (by assumption) | exact And.left (And.right (by assumption)) | exact And.right (And.right (by assumption)) | exact And.right (by assumption) | exact And.left (And.right (And.right (by assumption))) | exact And.right (And.right (And.right (by assumption))) | exact And.left (And.right (And.right (And.right (by assumption)))) | exact And.left (And.right (And.right (And.right (And.right (by assumption))))) | refine Nat.lt_trans ?_ (by assumption))); done)) | omega), (by first | (refine neN (Nat.ne_of_gt ?_); with_reducible ((repeat (first | assumption | exact And.left (by assumption) | exact And.left (And.right (by assumption)) | exact And.right (And.right (by assumption)) | exact And.right (by assumption) | exact And.left (And.right (And.right (by assumption))) | exact And.right (And.right (And.right (by assumption))) | exact And.left (And.right (And.right (And.right (by assumption)))) | exact And.left (And.right (And.right (And.right (And.right (by assumption))))) | refine Nat.lt_trans ?_ (by assumption))); done)) | (refine neN (Nat.ne_of_lt ?_); with_reducible ((repeat (first | assumption | exact And.left (by assumption) | exact And.left (And.right (by assumption)) | exact And.right (And.right (by assumption)) | exact And.right (by assumption) | exact And.left (And.right (And.right (by assumption))) | exact And.right (And.right (And.right (by assumption))) | exact And.left (And.right (And.right (And.right (by assumption)))) | exact And.left (And.right (And.right (And.right (And.right (by assumption))))) | refine Nat.lt_trans ?_ (by assumption))); done)) | omega), (by first | (refine neN (Nat.ne_of_gt ?_); with_reducible ((repeat (first | assumption | exact And.left (by assumption) | exact And.left (And.right (by assumption)) | exact And.right (And.right (by assumption)) | exact And.right (by assumption) | exact And.left (And.right (And.right (by assumption))) | exact And.right (And.right (And.right (by assumption))) | exact And.left (And.right (And.right (And.right (by assumption)))) | exact And.left (And.right (And.right (And.right (And.right (by assumption))))) | refine Nat.lt_trans ?_ (by assumption))); done)) | (refine neN (Nat.ne_of_lt ?_); with_reducible ((repeat (first | assumption | exact And.left (by assumption) | exact And.left (And.right (by assumption)) | exact And.right (And.right (by assumption)) | exact And.right (by assumption) | exact And.left (And.right (And.right (by assumption))) | exact And.right (And.right (And.right (by assumption))) | exact And.left (And.right (And.right (And.right (by assumption)))) | exact And.left (And.right (And.right (And.right (And.right (by assumption))))) | refine Nat.lt_trans ?_ (by assumption))); done)) | omega), (by first | (refine neN (Nat.ne_of_gt ?_); with_reducible ((repeat (first | assumption | exact And.left (by assumption) | exact And.left (And.right (by assumption)) | exact And.right (And.right (by assumption)) | exact And.right (by assumption) | exact And.left (And.right (And.right (by assumption))) | exact And.right (And.right (And.right (by assumption))) | exact And.left (And.right (And.right (And.right (by assumption)))) | exact And.left (And.right (And.right (And.right (And.right (by assumption))))) | refine Nat.lt_trans ?_ (by assumption))); done)) | (refine neN (Nat.ne_of_lt ?_); with_reducible ((repeat (first | assumption | exact And.left (by assumption) | exact And.left (And.right (by assumption)) | exact And.right (And.right (by assumption)) | exact And.right (by assumption) | exact And.left (And.right (And.right (by assumption))) | exact And.right (And.right (And.right (by assumption))) | exact And.left (And.right (And.right (And.right (by assumption)))) | exact And.left (And.right (And.right (And.right (And.right (by assumption))))) | refine Nat.lt_trans ?_ (by assumption))); done)) | omega), (by first | (refine neN (Nat.ne_of_gt ?_); with_reducible ((repeat (first | assumption | exact And.left (by assumption) | exact And.left (And.right (by assumption)) | exact And.right (And.right (by assumption)) | exact And.right (by assumption) | exact And.left (And.right (And.right (by assumption))) | exact And.right (And.right (And.right (by assumption))) | exact And.left (And.right (And.right (And.right (by assumption)))) | exact And.left (And.right (And.right (And.right (And.right (by assumption))))) | refine Nat.lt_trans ?_ (by assumption))); done)) | (refine neN (Nat.ne_of_lt ?_); with_reducible ((repeat (first | assumption | exact And.left (by assumption) | exact And.left (And.right (by assumption)) | exact And.right (And.right (by assumption)) | exact And.right (by assumption) | exact And.left (And.right (And.right (by assumption))) | exact And.right (And.right (And.right (by assumption))) | exact And.left (And.right (And.right (And.right (by assumption)))) | exact And.left (And.right (And.right (And.right (And.right (by assumption))))) | refine Nat.lt_trans ?_ (by assumption))); done)) | omega), (by first | (refine neN (Nat.ne_of_gt ?_); with_reducible ((repeat (first | assumption | exact And.left (by assumption) | exact And.left (And.right (by assumption)) | exact And.right (And.right (by assumption)) | exact And.right (by assumption) | exact And.left (And.right (And.right (by assumption))) | exact And.right (And.right (And.right (by assumption))) | exact And.left (And.right (And.right (And.right (by assumption)))) | exact And.left (And.right (And.right (And.right (And.right (by assumption))))) | refine Nat.lt_trans ?_ (by assumption))); done)) | (refine neN (Nat.ne_of_lt ?_); with_reducible ((repeat (first | assumption | exact And.left (by assumption) | exact And.left (And.right (by assumption)) | exact And.right (And.right (by assumption)) | exact And.right (by assumption) | exact And.left (And.right (And.right (by assumption))) | exact And.right (And.right (And.right (by assumption))) | exact And.left (And.right (And.right (And.right (by assumption)))) | exact And.left (And.right (And.right (And.right (And.right (by assumption))))) | refine Nat.lt_trans ?_ (by assumption))); done)) | omega), (by first | (refine neN (Nat.ne_of_gt ?_); with_reducible ((repeat (first | assumption | exact And.left (by assumption) | exact And.left (And.right (by assumption)) | exact And.right (And.right (by assumption)) | exact And.right (by assumption) | exact And.left (And.right (And.right (by assumption))) | exact And.right (And.right (And.right (by assumption))) | exact And.left (And.right (And.right (And.right (by assumption)))) | exact And.left (And.right (And.right (And.right (And.right (by assumption))))) | refine Nat.lt_trans ?_ (by assumption))); done)) | (refine neN (Nat.ne_of_lt ?_); with_reducible ((repeat (first | assumption | exact And.left (by assumption) | exact And.left (And.right (by assumption)) | exact And.right (And.right (by assumption)) | exact And.right (by assumption) | exact And.left (And.right (And.right (by assumption))) | exact And.right (And.right (And.right (by assumption))) | exact And.left (And.right (And.right (And.right (by assumption)))) | exact And.left (And.right (And.right (And.right (And.right (by assumption))))) | refine Nat.lt_trans ?_ (by assumption))); done)) | omega)⟩

theorem machine_c (w : World) (x : Str) (t : Tok) (hx : x.length < 100000) :
   Con w 10 100 178 [.str x t] [(173, tabObj #[])]
     (fun _ v sel' => ∃ a adr RO blk tab, Reader w a.rd x adr RO ∧ LexA.Ok a adr ∧ v = .ref a.x ∧ MachSt w a RO 1 "\n\t\r " [] 0 blk ∧ sel' = blk ++ [(173, tabObj tab)] ∧ 173 ∉ [a.x, a.dx, a.pb, a.st, a.std] ++ adr) := by
  unfold Con
  k_fill
  intro dp un gd outer base g tp tl mean mg mb s R B hg hsz hsel X T hd hu ret
  refine' enter_gc hg hsz hsel X T ?k6 ?k7 ?k8 ?k9 ?kB ?kD ?_ ?c2 ?c3 ?c4
  (case k6 => k_is); (case k7 => k_is); (case k8 => ktr_room); (case k9 => exact BindsTo.of_eq rfl); (case kB => exact rfl); (case kD => decide +kernel); (case c2 => exact rfl); (case c3 => exact rfl); (case c4 => exact rfl)
  k_whole
  intro L' h' tk' cells' F' N' Y' l1
  (try k_lt l1); k_cells Y'; (try simp only [List.cons_append, List.nil_append] at N')
  have codeHd := codeHd_of_K (c := 177) (P := 173) X (by kernel_rfl)
  (try dsimp only); (try k_fold)
  ((repeat' ((fail_if_success (with_reducible show wpAny _ _ (setAttr _ _ _) _ _ _)); (first | (k_unfold; (try dsimp only)) | ((with_reducible first | show wpAny _ _ (exec _ _) _ _ _ | show wpAny _ _ (execs _ _) _ _ _); k_fold) | (k_end; wrow_close) | walk1 | (dsimp only; walk1) | (leave1; (try dsimp only))))) <;> (repeat (k_unfold; (try dsimp only))))
  rename Fr _ _ _ _ => F1
  rename News _ _ _ _ => N1
  refine fn_setattr (pre := []) F1 N1 (fun _ h => nomatch h) (by k_all) ?_
  intro d9 h9 tk9 F9 N9 l9
  simp only [List.nil_append] at N9 l9
  k_lt l9
  clear F1 N1
  (try dsimp only); (try k_fold)
  ((repeat' (first | (k_unfold; (try dsimp only)) | ((with_reducible first | show wpAny _ _ (exec _ _) _ _ _ | show wpAny _ _ (execs _ _) _ _ _); k_fold) | (k_end; wrow_close) | walk1 | (dsimp only; walk1) | (leave1; (try dsimp only)))) <;> (repeat (k_unfold; (try dsimp only))))
  (try dsimp only)
  rename Fr _ _ _ _ => F3
  rename News _ _ _ _ => N3
  refine' (mach_end N3 ?m1 ?m2 ?m3 ?m4 ?m5 ?m6 ?m7 ?m8 ?m9 ?m10 ?m11 ?hdef ?hcd ?hvs ?hA ?hT hx ?o1 ?o2 ?o3 ?o4 ?o5 ?o6 ?o7 ?o8 ?o9 ?o10).elim (fun sel9 H9 => ret _ sel9 _ _ F3.keep H9.1 H9.2)
  (case m1 => k_mem); (case m2 => k_mem); (case m3 => k_mem); (case m4 => k_mem); (case m5 => k_mem); (case m6 => k_mem); (case m7 => k_mem); (case m8 => k_mem); (case m9 => k_mem); (case m10 => k_mem); (case m11 => k_mem)
  (case hcd => assumption)
  (case hvs => assumption)
  (case hA => assumption)
  (case hT => assumption)
  (case hdef => exact rfl)
  all_goals (refine ltN ?_; omega)

section
variable {prog : Program} {w : World} {A : Around} {s : Shared} {env : Env} {h₀ : Heap} {L : Addr}

/-- the end of a turn -/
noncomputable def TurnEnd (h₀ : Heap) (L : Addr) (J : (Str → Option Value) → List (Addr × Obj) → Prop) (own : List (Addr × Obj)) (wr : List Addr) (s s₂ : Shared) : Prop :=
  Left (∃ h' tk m' nx news', s₂ = { s with heap := h', toks := tk } ∧ Fr h₀ L h' m' ∧ News h₀ L h' news' ∧ (∀ p ∈ own, p ∈ news') ∧ (∀ p ∈ nx, p ∈ news') ∧ (∀ p ∈ nx, p.1 ∉ wr) ∧ J m' nx)

theorem for_W {R : Result → Shared → Prop} {x : Str} {px : Pos} {body : List Stmt} {I : Addr} {fp wr : List Addr} {n : Nat} {P : Nat → Value → Prop} {St : Nat → Heap → Prop} {m : Str → Option Value}
    {news : List (Addr × Obj)} (W : Walks prog w A I fp wr n P St) (hx : env.kindOf x = some .local) (hk : env.scope.kind = .function) (hL : env.locals = L)
    (hLf : L ∉ fp) (hwr : ∀ b ∈ wr, h₀.get? b = none) (hnw : ∀ p ∈ news, p.1 ∉ wr)
    (hst : St 0 s.heap) (F : Fr h₀ L s.heap m) (N : News h₀ L s.heap news)
    (J : Nat → (Str → Option Value) → List (Addr × Obj) → Prop) (h0 : J 0 m news)
    (turn : ∀ i v m₁ news₁ h tk own, i < n → P i v → J i m₁ news₁ → (∀ p ∈ news₁, p.1 ∉ wr) → (∀ p ∈ own, p.1 ∈ fp) → (∀ p ∈ own, h.get? p.1 = some p.2) → (∀ b ∈ fp, h₀.get? b = none → ∀ o, h.get? b = some o → (b, o) ∈ own) → St (i + 1) h → Fr h₀ L h (fun y => if y = x then some v else m₁ y) → News h₀ L h (news₁ ++ own) →
      wpAny (model prog w) A (execs body env) (fun f s₂ => match f with
        | .next | .cont => TurnEnd h₀ L (J (i + 1)) own wr s s₂
        | .brk => R (.ok .next) s₂
        | .ret v => R (.ok (.ret v)) s₂) (fun _ _ => False) { s with heap := h, toks := tk })
    (done : ∀ m' news' h' tk, J n m' news' → Fr h₀ L h' m' → News h₀ L h' news' → R (.ok .next) { s with heap := h', toks := tk }) :
    codeAny (model prog w) A (.forLoop (.Name x px) (.ref I) body [] env) R s := by
  subst hL
  refine codeAny_forLoop_frV W hx (by rw [hk]; rfl) hLf hwr hnw hst F N J h0 ?_ (fun h' tk m' news' F' N' _ hJ => done m' news' h' tk hJ F' N')
  rintro i v m₁ news₁ s₁ own ⟨h, tk, rfl⟩ hi hP hJ hn ho ho2 ho3 hS F₁ N₁
  refine wpAny_mono (turn i v m₁ news₁ h tk own hi hP hJ hn ho ho2 ho3 hS F₁ fun p hp => N₁ p (List.mem_append.mpr (List.mem_append.mp hp).symm)) (fun f s₂ z => ?_) (fun _ _ z => z.elim)
  have key : TurnEnd h₀ env.locals (J (i + 1)) own wr s s₂ → LoopStepU h₀ env.locals wr own (J (i + 1)) { s with heap := h, toks := tk } .next s₂ := by
    rintro ⟨h', tk', m', nx, news', rfl, F', N', k1, k2, k3, k4⟩
    exact ⟨rfl, h', tk', m', nx, rfl, F', fun p hp => N' p ((List.mem_append.mp hp).elim (k1 p) (k2 p)), k3, k4⟩
  cases f with
  | next => exact .next (key z)
  | cont => exact .cont (key z)
  | brk => exact .brk z
  | ret v => exact .ret z

theorem new_none {h : Heap} {m : Str → Option Value} (F : Fr h₀ L h m) : h₀.get? h.objs.size = none := by
  cases q : h₀.get? h.objs.size with
  | none => rfl
  | some o => exact absurd (Heap.lt_size (F.keep _ _ q)) (Nat.lt_irrefl _)

theorem pyIter_str {E : Value → Shared → Prop} {x : Str} {t : Tok} {Q : Value → Shared → Prop}
    (hQ : ∀ (o : Obj) (St : Nat → Heap → Prop), (∀ A' : Around, A'.handled = none → Walks prog w A' s.heap.objs.size [s.heap.objs.size] [s.heap.objs.size] x.cps.size (SignAt x) St) → (∀ i h, St i h → ∃ o, h.get? s.heap.objs.size = some o) → St 0 (s.heap.push o) →
      Q (.ref s.heap.objs.size) { s with heap := s.heap.push o }) : wpAny (model prog w) A (pyIter (.str x t)) Q E s := by
  cases ha : x.cps.all (· < 128)
  · exact wpAny_pyIter_wide ha (hQ _ _ (fun A' hA => Walks.strWide hA _ x t) (fun _ _ z => let ⟨o, e, _⟩ := z; ⟨o, e⟩) ⟨_, Heap.get?_push_size _ rfl, rfl, rfl⟩)
  · exact wpAny_pyIter_ascii ha (hQ _ _ (fun A' hA => Walks.strAscii hA _ x t) (fun _ _ z => let ⟨o, e, _⟩ := z; ⟨o, e⟩) ⟨_, Heap.get?_push_size _ rfl, rfl, rfl⟩)

/-- a for over a text's signs -/
theorem for_str {R : Result → Shared → Prop} {E : Value → Shared → Prop} {x y : Str} {t : Tok} {px : Pos} {body : List Stmt} {m : Str → Option Value} {news : List (Addr × Obj)} (hh : A.handled = none)
    (hx : env.kindOf y = some .local) (hk : env.scope.kind = .function) (hL : env.locals = L) (F : Fr h₀ L s.heap m) (N : News h₀ L s.heap news)
    (J : Nat → (Str → Option Value) → List (Addr × Obj) → Prop) (h0 : J 0 m news)
    (turn : ∀ i c u m₁ news₁ h tk I oI, x.cps[i]? = some c → J i m₁ news₁ → (∀ p ∈ news₁, p.1 ≠ I) → Fr h₀ L h (fun z => if z = y then some (.str ⟨#[c]⟩ u) else m₁ z) → News h₀ L h (news₁ ++ [(I, oI)]) →
      wpAny (model prog w) A (execs body env) (fun f s₂ => match f with
        | .next | .cont => Left (∃ h' tk m' nx, s₂ = { s with heap := h', toks := tk } ∧ Fr h₀ L h' m' ∧ News h₀ L h' (nx ++ [(I, oI)]) ∧ (∀ p ∈ nx, p.1 ≠ I) ∧ J (i + 1) m' nx)
        | .brk => R (.ok .next) s₂
        | .ret v => R (.ok (.ret v)) s₂) (fun _ _ => False) { s with heap := h, toks := tk })
    (done : ∀ m' news' h' tk, J x.cps.size m' news' → Fr h₀ L h' m' → News h₀ L h' news' → R (.ok .next) { s with heap := h', toks := tk }) :
    wpAny (model prog w) A (pyIter (.str x t)) (fun it s₂ => codeAny (model prog w) A (.forLoop (.Name y px) it body [] env) R s₂) E s := by
  refine pyIter_str fun o St W hSt hst => ?_
  have hLn : L < s.heap.objs.size := F.ns.lt
  have hn0 := new_none F
  refine for_W (s := { s with heap := s.heap.push o }) (W A hh) hx hk hL (by simpa using Nat.ne_of_lt hLn) (by simpa using hn0) (fun p hp => by simpa using Nat.ne_of_lt (Heap.lt_size (N p hp).1)) hst (F.push o)
    (fun p hp => ⟨Heap.get?_push_of_some _ (N p hp).1, (N p hp).2⟩) J h0 ?_ (fun m' news' h' tk hJ F' N' => done m' news' h' tk hJ F' N')
  intro i v m₁ news₁ h tk own hi hP hJ hnw ho ho2 ho3 hS F₁ N₁
  obtain ⟨c, u, hc, rfl⟩ := hP
  obtain ⟨oI, hoI⟩ := hSt _ _ hS
  have hIo : (s.heap.objs.size, oI) ∈ own := ho3 _ (.head _) hn0 _ hoI
  refine wpAny_mono (turn i c u m₁ news₁ h tk s.heap.objs.size oI hc hJ (fun p hp => by simpa using hnw p hp) F₁ ?_) (fun f s₂ z => ?_) (fun _ _ z => z)
  · intro p hp
    rcases List.mem_append.mp hp with hp | hp
    · exact N₁ p (List.mem_append_left _ hp)
    · rw [List.mem_singleton.mp hp]; exact N₁ _ (List.mem_append_right _ hIo)
  have key : (∃ h' tk m' nx, s₂ = { s with heap := h', toks := tk } ∧ Fr h₀ L h' m' ∧ News h₀ L h' (nx ++ [(s.heap.objs.size, oI)]) ∧ (∀ p ∈ nx, p.1 ≠ s.heap.objs.size) ∧ J (i + 1) m' nx) → TurnEnd h₀ L (J (i + 1)) own [s.heap.objs.size] { s with heap := s.heap.push o } s₂ := by
    rintro ⟨h', tk', m', nx, rfl, F', N', k1, k2⟩
    refine ⟨h', tk', m', nx, _, rfl, F', N', fun p hp => ?_, fun p hp => List.mem_append_left _ hp, fun p hp => by simpa using k1 p hp, k2⟩
    have e1 : p.1 = s.heap.objs.size := by simpa using ho p hp
    have e2 := ho2 p hp
    rw [e1, hoI] at e2
    refine List.mem_append_right _ (List.mem_singleton.mpr ?_)
    obtain ⟨p1, p2⟩ := p
    simp only at e1 e2
    rw [e1, Option.some.inj e2]
  cases f with
  | next => exact key z
  | cont => exact key z
  | brk => exact z
  | ret v => exact z
end
section
theorem news_ne {h₀ h : Heap} {L : Addr} {news : List (Addr × Obj)} {a b : Addr} {o1 o2 : Obj} (N : News h₀ L h news) (h1 : (a, o1) ∈ news) (h2 : (b, o2) ∈ news) (ho : o1.cls ≠ o2.cls) : a ≠ b := fun e => by
  have e1 := (N _ h1).1
  have e2 := (N _ h2).1
  simp only at e1 e2
  rw [e, e2] at e1
  exact ho (by rw [Option.some.inj e1])
local macro_rules | `(tactic| k_ne) => `(tactic| first | assumption | (refine Ne.symm ?_; assumption) | (refine neN ?_; (try dsimp only); omega) | (refine news_ne (by assumption) (by k_mem) (by k_mem) ?_; first | (intro e; exact absurd (Value.type.inj e) (by decide)) | (intro e; cases e; done)))

/-- the locals of Whitespace.__init__ -/
noncomputable def wm (x cl : Addr) (text : Str) (t ts tt : Tok) (b n nt : Int) (tb tn tnt : Tok) (chv : Option Value) : Str → Option Value :=
  fun y => if y = "ch" then chv else if y = "nt" then some (.int nt tnt) else if y = "n" then some (.int n tn) else if y = "b" then some (.int b tb) else if y = "count" then some (.ref cl)
    else if y = "T" then some (.str "\t" tt) else if y = "S" then some (.str " " ts) else if y = "ws" then some (.str text t) else if y = "self" then some (.ref x) else none

/-- what __init__ counts: the runs, the blanks at the end, the signs, the tabs -/
structure WsSt where
  count : List Int
  b : Nat
  n : Nat
  nt : Nat
noncomputable def grow (c : List Int) (b : Nat) : List Int := if b ≥ c.length then c ++ List.replicate (b - c.length + 1) 0 else c
noncomputable def wsStep (s : WsSt) (c : Nat) : WsSt :=
  if c = 32 then ⟨s.count, s.b + 1, s.n + 1, s.nt⟩ else ⟨(grow s.count s.b).set s.b ((grow s.count s.b).getD s.b 0 + 1), 0, s.n + 1, s.nt + 1⟩
noncomputable def wsOf (cs : List Nat) : WsSt := cs.foldl wsStep ⟨[], 0, 0, 0⟩

noncomputable def WJ (w : World) (x dx : Addr) (text : Str) (t : Tok) (i : Nat) (m : Str → Option Value) (news : List (Addr × Obj)) : Prop :=
  ∃ cl k tr ts tt tb tn tnt chv vs, (∀ p ∈ [(cl, listOf vs.toArray k), (x, instObj 167 dx), (dx, dictOf [⟨PyData.keyHash w.params "raw", .str "raw" tr, .str text t⟩] 1)], p ∈ news) ∧ IntsAre vs (wsOf (text.cps.toList.take i)).count ∧ (wsOf (text.cps.toList.take i)).b ≤ i ∧ (wsOf (text.cps.toList.take i)).count.length ≤ i ∧ cl ≠ x ∧ cl ≠ dx ∧
    (∀ y, m y = wm x cl text t ts tt (wsOf (text.cps.toList.take i)).b (wsOf (text.cps.toList.take i)).n (wsOf (text.cps.toList.take i)).nt tb tn tnt chv y)

theorem wm_ch {x cl : Addr} {text : Str} {t ts tt : Tok} {b n nt : Int} {tb tn tnt : Tok} {chv v : Option Value} {m : Str → Option Value} (hm : ∀ y, m y = wm x cl text t ts tt b n nt tb tn tnt chv y) (y : Str) :
    (if y = "ch" then v else m y) = wm x cl text t ts tt b n nt tb tn tnt v y := by
  rw [hm]
  unfold wm
  split <;> rfl

/-- a Whitespace of these counts at x -/
noncomputable def WsAt (w : World) (x : Addr) (S : WsSt) (blk : List (Addr × Obj)) : Prop :=
  ∃ dx nrm ct rv tr tn0 tn tt0 tnt to ti tb vs, IntsAre vs S.count ∧ blk = [(x, instObj 167 dx), (dx, dictOf [⟨PyData.keyHash w.params "raw", .str "raw" tr, rv⟩, ⟨PyData.keyHash w.params "n", .str "n" tn0, .int S.n tn⟩, ⟨PyData.keyHash w.params "nt", .str "nt" tt0, .int S.nt tnt⟩, ⟨PyData.keyHash w.params "norm", .str "norm" to, .ref nrm⟩,
    ⟨PyData.keyHash w.params "is_simple", .str "is_simple" ti, .bool (decide ((S.count.length : Int) ≤ 1))⟩] 5), (nrm, { cls := .type "tuple", data := .seq #[.ref ct, .int S.b tb] }), (ct, { cls := .type "tuple", data := .seq vs.toArray })]

theorem ws_end {w : World} {g h : Heap} {L : Addr} {news : List (Addr × Obj)} {S : WsSt} {x dx nrm ct : Addr} {rv : Value} {tr tn0 tn tt0 tnt to ti tb : Tok} {vs : List Value} (N : News g L h news) (hvs : IntsAre vs S.count) (m1 : (x, instObj 167 dx) ∈ news)
    (m2 : (dx, dictOf [⟨PyData.keyHash w.params "raw", .str "raw" tr, rv⟩, ⟨PyData.keyHash w.params "n", .str "n" tn0, .int S.n tn⟩, ⟨PyData.keyHash w.params "nt", .str "nt" tt0, .int S.nt tnt⟩, ⟨PyData.keyHash w.params "norm", .str "norm" to, .ref nrm⟩,
      ⟨PyData.keyHash w.params "is_simple", .str "is_simple" ti, .bool (decide ((S.count.length : Int) ≤ 1))⟩] 5) ∈ news) (m3 : (nrm, { cls := .type "tuple", data := .seq #[.ref ct, .int S.b tb] }) ∈ news) (m4 : (ct, { cls := .type "tuple", data := .seq vs.toArray }) ∈ news) :
    ∃ sel', (∀ p ∈ sel', h.get? p.1 = some p.2 ∧ g.get? p.1 = none) ∧ WsAt w x S sel' := by
  refine ⟨_, ?_, dx, nrm, ct, rv, tr, tn0, tn, tt0, tnt, to, ti, tb, vs, hvs, rfl⟩
  have hm : ∀ p ∈ _, p ∈ news := List.forall_mem_cons.mpr ⟨m1, List.forall_mem_cons.mpr ⟨m2, List.forall_mem_cons.mpr ⟨m3, List.forall_mem_cons.mpr ⟨m4, List.forall_mem_nil _⟩⟩⟩⟩
  exact fun p hp => ⟨(N p (hm p hp)).1, (N p (hm p hp)).2.2⟩

theorem ws_init (w : World) (x dx : Addr) (text : Str) (t : Tok) (hne : x ≠ dx) (hlen : text.length < 10000) (hws : ∀ c ∈ text.cps.toList, c = 32 ∨ c = 9) :
   Con w 10 100 122 [.ref x, .str text t] [(x, instObj 167 dx), (dx, dictOf [] 0)] (fun _ v sel' => v = .none ∧ WsAt w x (wsOf text.cps.toList) sel') := by
  unfold Con
  k_fill
  intro dp un gd outer base g tp tl mean mg mb s R B hg hsz hsel X T hd hu ret
  refine' enter_g B hg hsz hsel X T ?k6 ?k7 ?k8 ?k9 ?kB ?_ ?c2 ?c3 ?c4 ?c5
  (case k6 => k_is); (case k7 => k_is); (case k8 => ktr_room); (case k9 => exact BindsTo.of_eq rfl); (case c5 => decide); (case kB => exact locs rfl); (case c2 => exact rfl); (case c3 => exact rfl); (case c4 => exact rfl)
  k_whole
  intro L' h' tk' F' N' l1
  k_lt l1
  (try dsimp only); (try k_fold)
  ((repeat' ((fail_if_success (with_reducible show wpAny _ _ (exec (Stmt.For _ _ _ _ _) _) _ _ _)); (first | (k_unfold; (try dsimp only)) | ((with_reducible first | show wpAny _ _ (exec _ _) _ _ _ | show wpAny _ _ (execs _ _) _ _ _); k_fold) | (k_end; wrow_close) | walk1 | (dsimp only; walk1) | (leave1; (try dsimp only))))) <;> (repeat (k_unfold; (try dsimp only))))
  rename Fr _ _ _ _ => F4
  rename News _ _ _ _ => N4
  refine wpAny_For ?_
  ((repeat' ((fail_if_success (with_reducible show wpAny _ _ (pyIter _) _ _ _)); (first | (k_unfold; (try dsimp only)) | ((with_reducible first | show wpAny _ _ (exec _ _) _ _ _ | show wpAny _ _ (execs _ _) _ _ _); k_fold) | (k_end; wrow_close) | walk1 | (dsimp only; walk1) | (leave1; (try dsimp only))))) <;> (repeat (k_unfold; (try dsimp only))))
  refine' for_str (env := envOf _ _ L' 122 _) rfl rfl rfl rfl F4 N4 (WJ w x dx text t) ?h0 ?turn ?done
  case h0 =>
    refine' ⟨_, _, _, _, _, _, _, _, _, [], ?sub, .nil, Nat.zero_le _, Nat.zero_le _, ?n1, ?n2, ?meq⟩
    case sub => exact List.forall_mem_cons.mpr ⟨by k_mem, List.forall_mem_cons.mpr ⟨by k_mem, List.forall_mem_cons.mpr ⟨by k_mem, List.forall_mem_nil _⟩⟩⟩
    case meq => (intro y; unfold wm; (rcases Classical.em (y = "ch") with rfl | h0); exact rfl; (rcases Classical.em (y = "nt") with rfl | h1); exact rfl; (rcases Classical.em (y = "n") with rfl | h2); exact rfl; (rcases Classical.em (y = "b") with rfl | h3); exact rfl; (rcases Classical.em (y = "count") with rfl | h4); exact rfl; (rcases Classical.em (y = "T") with rfl | h5); exact rfl; (rcases Classical.em (y = "S") with rfl | h6); exact rfl; (rcases Classical.em (y = "ws") with rfl | h7); exact rfl; (rcases Classical.em (y = "self") with rfl | h8); exact rfl; (try simp only [if_neg h0, if_neg h1, if_neg h2, if_neg h3, if_neg h4, if_neg h5, if_neg h6, if_neg h7, if_neg h8]); (first | done | exact rfl | (show List.lookup y (_ :: _) = none; simp only [List.lookup, beq_eq_false_iff_ne.mpr h0, beq_eq_false_iff_ne.mpr h1, beq_eq_false_iff_ne.mpr h2, beq_eq_false_iff_ne.mpr h3, beq_eq_false_iff_ne.mpr h4, beq_eq_false_iff_ne.mpr h5, beq_eq_false_iff_ne.mpr h6, beq_eq_false_iff_ne.mpr h7, beq_eq_false_iff_ne.mpr h8]) | (simp only [List.lookup, beq_eq_false_iff_ne.mpr h0, beq_eq_false_iff_ne.mpr h1, beq_eq_false_iff_ne.mpr h2, beq_eq_false_iff_ne.mpr h3, beq_eq_false_iff_ne.mpr h4, beq_eq_false_iff_ne.mpr h5, beq_eq_false_iff_ne.mpr h6, beq_eq_false_iff_ne.mpr h7, beq_eq_false_iff_ne.mpr h8]; done)))
    case n1 => exact neN (by omega)
    case n2 => exact neN (by omega)
  case turn =>
    intro i c u m₁ news₁ h5 tk5 I oI hc hJ hI F5 N5
    obtain ⟨cl, k, tr, ts, tt, tb, tn, tnt, chv, vs, hsub, hvs, hb, hcl, n1, n2, hm⟩ := hJ
    obtain ⟨S, hS⟩ : ∃ S, S = wsOf (text.cps.toList.take i) := ⟨_, rfl⟩
    rw [← hS] at hvs hb hcl hm
    replace F5 := Fr.congr F5 (wm_ch hm)
    have hin : i < text.length := by
      rw [len_cps]
      exact (List.getElem?_eq_some_iff.mp (by simpa using hc)).1
    have hstep : wsOf (text.cps.toList.take (i + 1)) = wsStep S c := by
      rw [hS, wsOf, List.take_add_one, show text.cps.toList[i]? = some c from by simpa using hc]
      simp [wsOf]
    have hcc : c = 32 ∨ c = 9 := hws c (List.mem_of_getElem? (i := i) (by simpa using hc))
    have hl5 := hvs.length
    replace N5 : News g L' h5 [(cl, listOf vs.toArray k), (x, instObj 167 dx), (dx, dictOf [⟨PyData.keyHash w.params "raw", .str "raw" tr, .str text t⟩] 1), (I, oI)] := fun p hp => by
      rcases List.mem_append.mp (show p ∈ [(cl, listOf vs.toArray k), (x, instObj 167 dx), (dx, dictOf [⟨PyData.keyHash w.params "raw", .str "raw" tr, .str text t⟩] 1)] ++ [(I, oI)] from hp) with hp | hp
      · exact N5 p (List.mem_append_left _ (hsub p hp))
      · exact N5 p (List.mem_append_right _ hp)
    have i1 : cl ≠ I := hI (cl, _) (hsub _ (.head _))
    have i2 : x ≠ I := hI (x, _) (hsub _ (.tail _ (.head _)))
    have i3 : dx ≠ I := hI (dx, _) (hsub _ (.tail _ (.tail _ (.head _))))
    clear hm hsub F4 N4
    unfold wm at F5
    (try dsimp only); (try k_fold)
    rcases hcc with rfl | rfl
    · ((repeat' ((fail_if_success (with_reducible show Left _)); (first | (k_unfold; (try dsimp only)) | ((with_reducible first | show wpAny _ _ (exec _ _) _ _ _ | show wpAny _ _ (execs _ _) _ _ _); k_fold) | (k_end; wrow_close) | walk1 | (dsimp only; walk1) | (leave1; (try dsimp only))))) <;> (repeat (k_unfold; (try dsimp only))))
      (try dsimp only)
      unfold Left
      rename Fr _ _ _ _ => F9
      rename News _ _ _ _ => N9
      have e : wsStep S 32 = ⟨S.count, S.b + 1, S.n + 1, S.nt⟩ := rfl
      refine ⟨_, _, _, [(cl, listOf vs.toArray k), (x, instObj 167 dx), (dx, dictOf [⟨PyData.keyHash w.params "raw", .str "raw" tr, .str text t⟩] 1)], rfl, F9, N9, ?_, ?_⟩
      · exact List.forall_mem_cons.mpr ⟨i1, List.forall_mem_cons.mpr ⟨i2, List.forall_mem_cons.mpr ⟨i3, List.forall_mem_nil _⟩⟩⟩
      · unfold WJ
        rw [hstep, e]
        refine' ⟨cl, k, tr, ts, tt, _, _, _, _, vs, fun p hp => hp, hvs, Nat.succ_le_succ hb, Nat.le_succ_of_le hcl, n1, n2, ?meq⟩
        case meq => (intro y; unfold wm; (rcases Classical.em (y = "ch") with rfl | h0); exact rfl; (rcases Classical.em (y = "nt") with rfl | h1); exact rfl; (rcases Classical.em (y = "n") with rfl | h2); exact rfl; (rcases Classical.em (y = "b") with rfl | h3); exact rfl; (rcases Classical.em (y = "count") with rfl | h4); exact rfl; (rcases Classical.em (y = "T") with rfl | h5); exact rfl; (rcases Classical.em (y = "S") with rfl | h6); exact rfl; (rcases Classical.em (y = "ws") with rfl | h7); exact rfl; (rcases Classical.em (y = "self") with rfl | h8); exact rfl; (try simp only [if_neg h0, if_neg h1, if_neg h2, if_neg h3, if_neg h4, if_neg h5, if_neg h6, if_neg h7, if_neg h8]); (first | done | exact rfl | (show List.lookup y (_ :: _) = none; simp only [List.lookup, beq_eq_false_iff_ne.mpr h0, beq_eq_false_iff_ne.mpr h1, beq_eq_false_iff_ne.mpr h2, beq_eq_false_iff_ne.mpr h3, beq_eq_false_iff_ne.mpr h4, beq_eq_false_iff_ne.mpr h5, beq_eq_false_iff_ne.mpr h6, beq_eq_false_iff_ne.mpr h7, beq_eq_false_iff_ne.mpr h8]) | (simp only [List.lookup, beq_eq_false_iff_ne.mpr h0, beq_eq_false_iff_ne.mpr h1, beq_eq_false_iff_ne.mpr h2, beq_eq_false_iff_ne.mpr h3, beq_eq_false_iff_ne.mpr h4, beq_eq_false_iff_ne.mpr h5, beq_eq_false_iff_ne.mpr h6, beq_eq_false_iff_ne.mpr h7, beq_eq_false_iff_ne.mpr h8]; done)))
    · have hbn : S.b ≤ i := hb
      have e : wsStep S 9 = ⟨(grow S.count S.b).set S.b ((grow S.count S.b).getD S.b 0 + 1), 0, S.n + 1, S.nt + 1⟩ := rfl
      ((repeat' ((fail_if_success (with_reducible show Left _)); (first | (k_unfold; (try dsimp only)) | ((with_reducible first | show wpAny _ _ (exec _ _) _ _ _ | show wpAny _ _ (execs _ _) _ _ _); k_fold) | (k_end; wrow_close) | walk1 | (dsimp only; walk1) | (leave1; (try dsimp only))))) <;> (repeat (k_unfold; (try dsimp only))))
      · (try dsimp only)
        unfold Left
        rename Fr _ _ _ _ => F9
        rename News _ _ _ _ => N9
        rename ((S.count.length : Int) ≤ (S.b : Int)) => hle
        have hg : grow S.count S.b = S.count ++ (List.replicate ((S.b : Int) - (S.count.length : Int) + 1).toNat [(0 : Int)]).flatten := by
          unfold grow
          rw [if_pos (by omega), show ((S.b : Int) - (S.count.length : Int) + 1).toNat = S.b - S.count.length + 1 from by omega]
          congr 1
          generalize S.b - S.count.length + 1 = q
          induction q with
          | zero => rfl
          | succ q ih => rw [List.replicate_succ, List.replicate_succ, List.flatten_cons, ← ih]; rfl
        refine' ⟨_, _, _, [(?D, listOf (List.toArray ?vs) ?k), (x, instObj 167 dx), (dx, dictOf [⟨PyData.keyHash w.params "raw", .str "raw" tr, .str text t⟩] 1)], rfl, F9, cb_drop N9 ?hs, ?hI, ?hJ⟩
        case hs => exact List.forall_mem_cons.mpr ⟨by k_mem, List.forall_mem_cons.mpr ⟨by k_mem, List.forall_mem_cons.mpr ⟨by k_mem, List.forall_mem_cons.mpr ⟨by k_mem, List.forall_mem_nil _⟩⟩⟩⟩
        case hI => exact List.forall_mem_cons.mpr ⟨neN (by omega), List.forall_mem_cons.mpr ⟨i2, List.forall_mem_cons.mpr ⟨i3, List.forall_mem_nil _⟩⟩⟩
        case hJ =>
          unfold WJ
          rw [hstep, e, hg]
          refine' ⟨_, _, tr, ts, tt, _, _, _, _, _, fun p hp => hp, by assumption, Nat.zero_le _, ?len, neN (by omega), neN (by omega), ?meq⟩
          case len => simp only [List.length_set]; rw [← hg]; unfold grow; rw [if_pos (by omega)]; simp only [List.length_append, List.length_replicate]; omega
          case meq => (intro y; unfold wm; (rcases Classical.em (y = "ch") with rfl | h0); exact rfl; (rcases Classical.em (y = "nt") with rfl | h1); exact rfl; (rcases Classical.em (y = "n") with rfl | h2); exact rfl; (rcases Classical.em (y = "b") with rfl | h3); exact rfl; (rcases Classical.em (y = "count") with rfl | h4); exact rfl; (rcases Classical.em (y = "T") with rfl | h5); exact rfl; (rcases Classical.em (y = "S") with rfl | h6); exact rfl; (rcases Classical.em (y = "ws") with rfl | h7); exact rfl; (rcases Classical.em (y = "self") with rfl | h8); exact rfl; (try simp only [if_neg h0, if_neg h1, if_neg h2, if_neg h3, if_neg h4, if_neg h5, if_neg h6, if_neg h7, if_neg h8]); (first | done | exact rfl | (show List.lookup y (_ :: _) = none; simp only [List.lookup, beq_eq_false_iff_ne.mpr h0, beq_eq_false_iff_ne.mpr h1, beq_eq_false_iff_ne.mpr h2, beq_eq_false_iff_ne.mpr h3, beq_eq_false_iff_ne.mpr h4, beq_eq_false_iff_ne.mpr h5, beq_eq_false_iff_ne.mpr h6, beq_eq_false_iff_ne.mpr h7, beq_eq_false_iff_ne.mpr h8]) | (simp only [List.lookup, beq_eq_false_iff_ne.mpr h0, beq_eq_false_iff_ne.mpr h1, beq_eq_false_iff_ne.mpr h2, beq_eq_false_iff_ne.mpr h3, beq_eq_false_iff_ne.mpr h4, beq_eq_false_iff_ne.mpr h5, beq_eq_false_iff_ne.mpr h6, beq_eq_false_iff_ne.mpr h7, beq_eq_false_iff_ne.mpr h8]; done)))
      · (try dsimp only)
        unfold Left
        rename Fr _ _ _ _ => F9
        rename News _ _ _ _ => N9
        rename (¬ (S.count.length : Int) ≤ (S.b : Int)) => hle
        have hg : grow S.count S.b = S.count := by
          unfold grow
          rw [if_neg (by omega)]
        refine' ⟨_, _, _, [(cl, listOf (List.toArray ?vs2) ?k2), (x, instObj 167 dx), (dx, dictOf [⟨PyData.keyHash w.params "raw", .str "raw" tr, .str text t⟩] 1)], rfl, F9, cb_drop N9 ?hs, ?hI, ?hJ⟩
        case hs => exact List.forall_mem_cons.mpr ⟨by k_mem, List.forall_mem_cons.mpr ⟨by k_mem, List.forall_mem_cons.mpr ⟨by k_mem, List.forall_mem_cons.mpr ⟨by k_mem, List.forall_mem_nil _⟩⟩⟩⟩
        case hI => exact List.forall_mem_cons.mpr ⟨i1, List.forall_mem_cons.mpr ⟨i2, List.forall_mem_cons.mpr ⟨i3, List.forall_mem_nil _⟩⟩⟩
        case hJ =>
          unfold WJ
          rw [hstep, e, hg]
          refine' ⟨cl, _, tr, ts, tt, _, _, _, _, _, fun p hp => hp, by assumption, Nat.zero_le _, ?len, n1, n2, ?meq⟩
          case len => simp only [List.length_set]; omega
          case meq => (intro y; unfold wm; (rcases Classical.em (y = "ch") with rfl | h0); exact rfl; (rcases Classical.em (y = "nt") with rfl | h1); exact rfl; (rcases Classical.em (y = "n") with rfl | h2); exact rfl; (rcases Classical.em (y = "b") with rfl | h3); exact rfl; (rcases Classical.em (y = "count") with rfl | h4); exact rfl; (rcases Classical.em (y = "T") with rfl | h5); exact rfl; (rcases Classical.em (y = "S") with rfl | h6); exact rfl; (rcases Classical.em (y = "ws") with rfl | h7); exact rfl; (rcases Classical.em (y = "self") with rfl | h8); exact rfl; (try simp only [if_neg h0, if_neg h1, if_neg h2, if_neg h3, if_neg h4, if_neg h5, if_neg h6, if_neg h7, if_neg h8]); (first | done | exact rfl | (show List.lookup y (_ :: _) = none; simp only [List.lookup, beq_eq_false_iff_ne.mpr h0, beq_eq_false_iff_ne.mpr h1, beq_eq_false_iff_ne.mpr h2, beq_eq_false_iff_ne.mpr h3, beq_eq_false_iff_ne.mpr h4, beq_eq_false_iff_ne.mpr h5, beq_eq_false_iff_ne.mpr h6, beq_eq_false_iff_ne.mpr h7, beq_eq_false_iff_ne.mpr h8]) | (simp only [List.lookup, beq_eq_false_iff_ne.mpr h0, beq_eq_false_iff_ne.mpr h1, beq_eq_false_iff_ne.mpr h2, beq_eq_false_iff_ne.mpr h3, beq_eq_false_iff_ne.mpr h4, beq_eq_false_iff_ne.mpr h5, beq_eq_false_iff_ne.mpr h6, beq_eq_false_iff_ne.mpr h7, beq_eq_false_iff_ne.mpr h8]; done)))
  case done =>
    intro m₁ news₁ h5 tk5 hJ F5 N5
    obtain ⟨cl, k, tr, ts, tt, tb, tn, tnt, chv, vs, hsub, hvs, hb, hcl, n1, n2, hm⟩ := hJ
    obtain ⟨S, hS⟩ : ∃ S, S = wsOf (text.cps.toList.take text.cps.size) := ⟨_, rfl⟩
    rw [← hS] at hvs hb hcl hm
    replace F5 := Fr.congr F5 hm
    have hl5 := hvs.length
    have hszt : text.cps.size < 10000 := hlen
    replace N5 := cb_drop N5 hsub
    clear hm hsub F4 N4
    unfold wm at F5
    (try dsimp only)
    ((repeat' (first | (k_unfold; (try dsimp only)) | ((with_reducible first | show wpAny _ _ (exec _ _) _ _ _ | show wpAny _ _ (execs _ _) _ _ _); k_fold) | (k_end; wrow_close) | walk1 | (dsimp only; walk1) | (leave1; (try dsimp only)))) <;> (repeat (k_unfold; (try dsimp only))))
    (try dsimp only)
    rename Fr _ _ _ _ => F9
    rename News _ _ _ _ => N9
    have hS2 : wsOf text.cps.toList = S := by rw [hS, List.take_of_length_le (by simp)]
    refine' (ws_end N9 hvs ?m1 ?m2 ?m3 ?m4).elim (fun sel9 H9 => ret _ sel9 _ _ F9.keep H9.1 ⟨rfl, hS2 ▸ H9.2⟩)
    (case m1 => k_mem); (case m2 => k_mem); (case m3 => k_mem); (case m4 => k_mem)
end
theorem make_g {prog : Program} {w : World} {A : Around} {K : Frag} {C : Addr} {s : Shared} {R : Result → Shared → Prop} {rest : List Value} {fI : Addr} (X : K.In s.heap) (hm : makesIn K C = true)
    (hi : findIn K (.ref C) "__init__" = some (some (.ref fI))) (hf : typeIn K (.ref fI) = some (.type "function"))
    (h : codeAny (model prog w) (A.under (.builtin "type.__call__" ⟨.ref C :: rest, []⟩)) (.call (.ref fI) ⟨.ref (s.heap.objs.size + 1) :: rest, []⟩) (InitBack (s.heap.objs.size + 1) R) { s with heap := (s.heap.push emptyDict).push (instObj C s.heap.objs.size) }) :
    codeAny (model prog w) A (.call (.ref C) ⟨rest, []⟩) R s := by
  obtain ⟨hh, g, d, t, os⟩ := s
  exact make_core (makes_of X hm) (looks_findIn X hi) (fun self => bind_fn X self hf) (.inl rfl) h

theorem ws_new (w : World) (text : Str) (t : Tok) (hlen : text.length < 10000) (hws : ∀ c ∈ text.cps.toList, c = 32 ∨ c = 9) :
    Con w 12 120 167 [.str text t] [] (fun _ v blk => ∃ x, v = .ref x ∧ WsAt w x (wsOf text.cps.toList) blk) := by
  unfold Con
  k_fill
  intro dp un gd outer base g tp tl mean mg mb s R B hg hsz hsel X T hd hu ret
  refine make_g (fI := 122) (X.keeps hg) (by k_is) (by k_is) (by k_is) ?_
  have C := ws_init w (s.heap.objs.size + 1) s.heap.objs.size text t (Nat.ne_of_gt (Nat.lt_succ_self _)) hlen hws
  refine' C _ _ gd outer base g tp tl mean mg mb _ _ ?hB ?hg ?hsz ?hsel X T ?hd ?hu ?ret
  case hB => exact ⟨rfl, B.stays, B.frames⟩
  case hg => exact fun b o e => Heap.get?_push_of_some _ (Heap.get?_push_of_some _ (hg b o e))
  case hsz => exact Nat.le_trans hsz (by rw [Heap.size_push, Heap.size_push]; omega)
  case hsel =>
    have hno : ∀ b, g.objs.size ≤ b → g.get? b = none := fun b hb => by
      cases q : g.get? b with
      | none => rfl
      | some o => exact absurd (Heap.lt_size q) (Nat.not_lt.mpr hb)
    refine List.forall_mem_cons.mpr ⟨⟨?_, hno _ (Nat.le_succ_of_le hsz)⟩, List.forall_mem_cons.mpr ⟨⟨?_, hno _ hsz⟩, List.forall_mem_nil _⟩⟩
    · have := Heap.get?_push_size (s.heap.push emptyDict) (o := instObj 167 s.heap.objs.size) rfl
      rwa [Heap.size_push] at this
    · exact Heap.get?_push_of_some _ (Heap.get?_push_size _ rfl)
  case hd => show dp + 1 + 10 < _; omega
  case hu => show un + 1 + 100 < _; omega
  case ret =>
    rintro v sel' h' tk' k1 k2 ⟨rfl, hW⟩
    exact ⟨rfl, ret _ sel' h' tk' k1 k2 ⟨_, rfl, hW⟩⟩
theorem News.sub_app {h₀ h : Heap} {L : Addr} {l news₁ own : List (Addr × Obj)} (N : News h₀ L h (news₁ ++ own)) (hsub : ∀ p ∈ l, p ∈ news₁) : News h₀ L h (l ++ own) := fun p hp => by
  rcases List.mem_append.mp hp with hp | hp
  · exact N p (List.mem_append_left _ (hsub p hp))
  · exact N p (List.mem_append_right _ hp)
theorem News.swap {h₀ h : Heap} {L : Addr} {a b : List (Addr × Obj)} (N : News h₀ L h (a ++ b)) : News h₀ L h (b ++ a) := fun p hp => N p (List.mem_append.mpr (List.mem_append.mp hp).symm)
section
variable {prog : Program} {w : World} {A : Around} {s : Shared} {env : Env} {h₀ : Heap} {L : Addr}
/-- a for over an iterator that touches itself alone; its cell stands at the ledger's end -/
theorem for_one {R : Result → Shared → Prop} {y : Str} {px : Pos} {body : List Stmt} {m : Str → Option Value} {news : List (Addr × Obj)} {I : Addr} {n : Nat} {P : Nat → Value → Prop} {St : Nat → Heap → Prop}
    (W : Walks prog w A I [I] [I] n P St) (hSt : ∀ i h, St i h → ∃ o, h.get? I = some o) (hIn : h₀.get? I = none) (hLI : L ≠ I) (hnI : ∀ p ∈ news, p.1 ≠ I)
    (hx : env.kindOf y = some .local) (hk : env.scope.kind = .function) (hL : env.locals = L) (hst : St 0 s.heap) (F : Fr h₀ L s.heap m) (N : News h₀ L s.heap news)
    (J : Nat → (Str → Option Value) → List (Addr × Obj) → Prop) (h0 : J 0 m news)
    (turn : ∀ i v m₁ news₁ h tk oI, i < n → P i v → J i m₁ news₁ → (∀ p ∈ news₁, p.1 ≠ I) → Fr h₀ L h (fun z => if z = y then some v else m₁ z) → News h₀ L h (news₁ ++ [(I, oI)]) →
      wpAny (model prog w) A (execs body env) (fun f s₂ => match f with
        | .next | .cont => Left (∃ h' tk m' nx, s₂ = { s with heap := h', toks := tk } ∧ Fr h₀ L h' m' ∧ News h₀ L h' (nx ++ [(I, oI)]) ∧ (∀ p ∈ nx, p.1 ≠ I) ∧ J (i + 1) m' nx)
        | .brk => R (.ok .next) s₂
        | .ret v => R (.ok (.ret v)) s₂) (fun _ _ => False) { s with heap := h, toks := tk })
    (done : ∀ m' news' h' tk, J n m' news' → Fr h₀ L h' m' → News h₀ L h' news' → R (.ok .next) { s with heap := h', toks := tk }) :
    codeAny (model prog w) A (.forLoop (.Name y px) (.ref I) body [] env) R s := by
  refine for_W W hx hk hL (by simpa using hLI) (by simpa using hIn) (fun p hp => by simpa using hnI p hp) hst F N J h0 ?_ done
  intro i v m₁ news₁ h tk own hi hP hJ hnw ho ho2 ho3 hS F₁ N₁
  obtain ⟨oI, hoI⟩ := hSt _ _ hS
  have hIo : (I, oI) ∈ own := ho3 _ (.head _) hIn _ hoI
  refine wpAny_mono (turn i v m₁ news₁ h tk oI hi hP hJ (fun p hp => by simpa using hnw p hp) F₁ ?_) (fun f s₂ z => ?_) (fun _ _ z => z)
  · intro p hp
    rcases List.mem_append.mp hp with hp | hp
    · exact N₁ p (List.mem_append_left _ hp)
    · rw [List.mem_singleton.mp hp]; exact N₁ _ (List.mem_append_right _ hIo)
  have key : (∃ h' tk m' nx, s₂ = { s with heap := h', toks := tk } ∧ Fr h₀ L h' m' ∧ News h₀ L h' (nx ++ [(I, oI)]) ∧ (∀ p ∈ nx, p.1 ≠ I) ∧ J (i + 1) m' nx) → TurnEnd h₀ L (J (i + 1)) own [I] s s₂ := by
    rintro ⟨h', tk', m', nx, rfl, F', N', k1, k2⟩
    refine ⟨h', tk', m', nx, _, rfl, F', N', fun p hp => ?_, fun p hp => List.mem_append_left _ hp, fun p hp => by simpa using k1 p hp, k2⟩
    have e1 : p.1 = I := by simpa using ho p hp
    have e2 := ho2 p hp
    rw [e1, hoI] at e2
    refine List.mem_append_right _ (List.mem_singleton.mpr ?_)
    obtain ⟨p1, p2⟩ := p
    simp only at e1 e2
    rw [e1, Option.some.inj e2]
  cases f with
  | next => exact key z
  | cont => exact key z
  | brk => exact z
  | ret v => exact z

/-- a for over range(a, b) -/
theorem for_range {R : Result → Shared → Prop} {E : Value → Shared → Prop} {r : Addr} {a b : Int} {t₀ u₀ v₀ : Tok} {n : Nat} {y : Str} {px : Pos} {body : List Stmt} {m : Str → Option Value} {news : List (Addr × Obj)} (hh : A.handled = none)
    (hr : IsRange s.heap r a b 1 t₀ u₀ v₀) (hsmall : Builtin.Range.small a b 1 = true) (hn : Builtin.Range.rangeSize a b 1 = (n : Int))
    (hx : env.kindOf y = some .local) (hk : env.scope.kind = .function) (hL : env.locals = L) (F : Fr h₀ L s.heap m) (N : News h₀ L s.heap news)
    (J : Nat → (Str → Option Value) → List (Addr × Obj) → Prop) (h0 : J 0 m news)
    (turn : ∀ i t m₁ news₁ h tk I oI, i < n → J i m₁ news₁ → (∀ p ∈ news₁, p.1 ≠ I) → Fr h₀ L h (fun z => if z = y then some (.int (a + i) t) else m₁ z) → News h₀ L h (news₁ ++ [(I, oI)]) →
      wpAny (model prog w) A (execs body env) (fun f s₂ => match f with
        | .next | .cont => Left (∃ h' tk m' nx, s₂ = { s with heap := h', toks := tk } ∧ Fr h₀ L h' m' ∧ News h₀ L h' (nx ++ [(I, oI)]) ∧ (∀ p ∈ nx, p.1 ≠ I) ∧ J (i + 1) m' nx)
        | .brk => R (.ok .next) s₂
        | .ret v => R (.ok (.ret v)) s₂) (fun _ _ => False) { s with heap := h, toks := tk })
    (done : ∀ m' news' h' tk, J n m' news' → Fr h₀ L h' m' → News h₀ L h' news' → R (.ok .next) { s with heap := h', toks := tk }) :
    wpAny (model prog w) A (pyIter (.ref r)) (fun it s₂ => codeAny (model prog w) A (.forLoop (.Name y px) it body [] env) R s₂) E s := by
  refine wpAny_pyIter_range hr hsmall ?_
  rw [hn]
  have hLn : L < s.heap.objs.size := F.ns.lt
  refine for_one (s := { s with heap := s.heap.push _ }) (Walks.range hh s.heap.objs.size a 1 n) (fun i h z => ⟨_, z⟩) (new_none F) (Nat.ne_of_lt hLn) (fun p hp => Nat.ne_of_lt (Heap.lt_size (N p hp).1)) hx hk hL ?_ (F.push _)
    (fun p hp => ⟨Heap.get?_push_of_some _ (N p hp).1, (N p hp).2⟩) J h0 ?_ done
  · show Heap.get? _ _ = some _
    rw [Heap.get?_push_size _ rfl]
    simp [rawInt]
  · rintro i v m₁ news₁ h tk oI hi ⟨t, rfl⟩ hJ hI F₁ N₁
    rw [Int.mul_one] at F₁
    exact turn i t m₁ news₁ h tk _ oI hi hJ hI F₁ N₁
end
/-- the locals of indent_level -/
noncomputable def im (x ct : Addr) (ts b il : Int) (t tb til : Tok) (iv : Option Value) : Str → Option Value :=
  fun y => if y = "i" then iv else if y = "il" then some (.int il til) else if y = "trailing" then some (.int b tb) else if y = "count" then some (.ref ct) else if y = "tabsize" then some (.int ts t) else if y = "self" then some (.ref x) else none
theorem im_i {x ct : Addr} {ts b il : Int} {t tb til : Tok} {iv v : Option Value} {m : Str → Option Value} (hm : ∀ y, m y = im x ct ts b il t tb til iv y) (y : Str) : (if y = "i" then v else m y) = im x ct ts b il t tb til v y := by
  rw [hm]
  unfold im
  split <;> rfl
noncomputable def ilTo (count : List Int) (ts : Int) : Nat → Int
  | 0 => 0
  | k + 1 => ilTo count ts k + Int.fdiv (ts + k) ts * count.getD (ts + k).toNat 0

theorem indent_c (w : World) (x : Addr) (S : WsSt) (blk : List (Addr × Obj)) (W : WsAt w x S blk) (ts : Int) (t : Tok) (h1 : 1 ≤ ts) (h2 : ts < 100000) (hlen : S.count.length < 10000) :
    Con w 10 100 136 [.ref x, .int ts t] blk (fun _ v blk' => (∃ t, v = .int (S.b + ts * (ilTo S.count ts (S.count.length - ts.toNat) + S.nt)) t) ∧ blk' = blk) := by
  obtain ⟨dx, nrm, ct, rv, tr, tn0, tn, tt0, tnt, to, ti, tb, vs, hvs, rfl⟩ := W
  have hl5 := hvs.length
  unfold Con
  k_fill
  intro dp un gd outer base g tp tl mean mg mb s R B hg hsz hsel X T hd hu ret
  refine' enter_g B hg hsz hsel X T ?k6 ?k7 ?k8 ?k9 ?kB ?_ ?c2 ?c3 ?c4 ?c5
  (case k6 => k_is); (case k7 => k_is); (case k8 => ktr_room); (case k9 => exact BindsTo.of_eq rfl); (case c5 => decide); (case kB => exact locs rfl); (case c2 => exact rfl); (case c3 => exact rfl); (case c4 => exact rfl)
  k_whole
  intro L' h' tk' F' N' l1
  (try dsimp only); (try k_fold)
  ((repeat' ((fail_if_success (with_reducible show wpAny _ _ (exec (Stmt.For _ _ _ _ _) _) _ _ _)); (first | (k_unfold; (try dsimp only)) | ((with_reducible first | show wpAny _ _ (exec _ _) _ _ _ | show wpAny _ _ (execs _ _) _ _ _); k_fold) | (k_end; wrow_close) | walk1 | (dsimp only; walk1) | (leave1; (try dsimp only))))) <;> (repeat (k_unfold; (try dsimp only))))
  rename Fr _ _ _ _ => F4
  rename News _ _ _ _ => N4
  refine wpAny_For ?_
  ((repeat' ((fail_if_success (with_reducible show wpAny _ _ (pyIter _) _ _ _)); (first | ((with_reducible show wpAny _ _ (call (Value.builtin "len") [Value.ref ct]) _ _ _); refine len_tuple (items := vs.toArray) ⟨_, (N4 (ct, _) (by k_mem)).1, rfl, 0, rfl⟩ (by simp only [List.size_toArray]; omega) ?_) | (k_unfold; (try dsimp only)) | ((with_reducible first | show wpAny _ _ (exec _ _) _ _ _ | show wpAny _ _ (execs _ _) _ _ _); k_fold) | (k_end; wrow_close) | walk1 | (dsimp only; walk1) | (leave1; (try dsimp only))))) <;> (repeat (k_unfold; (try dsimp only))))
  rename Fr _ _ _ _ => F5
  rename News _ _ _ _ => N5
  rename IsRange _ _ _ _ _ _ _ _ => R5
  refine' for_range (env := envOf _ _ L' 136 _) (n := S.count.length - ts.toNat) rfl R5 ?hsm ?hn rfl rfl rfl F5 N5
    (fun i m news => ∃ til iv, (∀ p ∈ [(x, instObj 167 dx), (dx, dictOf [⟨PyData.keyHash w.params "raw", .str "raw" tr, rv⟩, ⟨PyData.keyHash w.params "n", .str "n" tn0, .int S.n tn⟩, ⟨PyData.keyHash w.params "nt", .str "nt" tt0, .int S.nt tnt⟩, ⟨PyData.keyHash w.params "norm", .str "norm" to, .ref nrm⟩,
    ⟨PyData.keyHash w.params "is_simple", .str "is_simple" ti, .bool (decide ((S.count.length : Int) ≤ 1))⟩] 5), (nrm, { cls := .type "tuple", data := .seq #[.ref ct, .int S.b tb] }), (ct, { cls := .type "tuple", data := .seq vs.toArray })], p ∈ news) ∧ ∀ y, m y = im x ct ts S.b (ilTo S.count ts i) t tb til iv y) ?h0 ?turn ?done
  case hsm => exact small_one (by omega) (by omega) (by omega) (by omega)
  case hn => rw [rangeSize_nat]; omega
  case h0 =>
    refine' ⟨_, _, ?sub, ?meq⟩
    case sub => exact List.forall_mem_cons.mpr ⟨by k_mem, List.forall_mem_cons.mpr ⟨by k_mem, List.forall_mem_cons.mpr ⟨by k_mem, List.forall_mem_cons.mpr ⟨by k_mem, List.forall_mem_nil _⟩⟩⟩⟩
    case meq => (intro y; unfold im; (rcases Classical.em (y = "i") with rfl | h0); exact rfl; (rcases Classical.em (y = "il") with rfl | h1); exact rfl; (rcases Classical.em (y = "trailing") with rfl | h2); exact rfl; (rcases Classical.em (y = "count") with rfl | h3); exact rfl; (rcases Classical.em (y = "tabsize") with rfl | h4); exact rfl; (rcases Classical.em (y = "self") with rfl | h5); exact rfl; (try simp only [if_neg h0, if_neg h1, if_neg h2, if_neg h3, if_neg h4, if_neg h5]); (first | done | exact rfl | (show List.lookup y (_ :: _) = none; simp only [List.lookup, beq_eq_false_iff_ne.mpr h0, beq_eq_false_iff_ne.mpr h1, beq_eq_false_iff_ne.mpr h2, beq_eq_false_iff_ne.mpr h3, beq_eq_false_iff_ne.mpr h4, beq_eq_false_iff_ne.mpr h5]) | (simp only [List.lookup, beq_eq_false_iff_ne.mpr h0, beq_eq_false_iff_ne.mpr h1, beq_eq_false_iff_ne.mpr h2, beq_eq_false_iff_ne.mpr h3, beq_eq_false_iff_ne.mpr h4, beq_eq_false_iff_ne.mpr h5]; done)))
  case turn =>
    intro i t2 m₁ news₁ h6 tk6 I oI hi hJ hI F6 N6
    obtain ⟨til, iv, hsub, hm⟩ := hJ
    replace F6 := Fr.congr F6 (im_i hm)
    have N7 := News.sub_app N6 hsub
    simp only [List.cons_append, List.nil_append] at N7
    try clear F5 N5 N6
    unfold im at F6
    (try dsimp only); (try k_fold)
    have hf1 : 0 ≤ Int.fdiv (ts + (i : Int)) ts := by rw [Int.fdiv_eq_ediv_of_nonneg _ (by omega)]; exact Int.ediv_nonneg (by omega) (by omega)
    have hf2 : Int.fdiv (ts + (i : Int)) ts < 200000 := by
      rw [Int.fdiv_eq_ediv_of_nonneg _ (by omega)]
      have := Int.ediv_le_self (ts) (a := ts + (i : Int)) (by omega)
      omega
    ((repeat' ((fail_if_success (with_reducible show Left _)); (first | (k_unfold; (try dsimp only)) | ((with_reducible first | show wpAny _ _ (exec _ _) _ _ _ | show wpAny _ _ (execs _ _) _ _ _); k_fold) | (k_end; wrow_close) | walk1 | (dsimp only; walk1) | (leave1; (try dsimp only))))) <;> (repeat (k_unfold; (try dsimp only))))
    (try dsimp only)
    unfold Left
    rename Fr _ _ _ _ => F9
    rename News _ _ _ _ => N9
    refine ⟨_, _, _, [(x, instObj 167 dx), (dx, dictOf [⟨PyData.keyHash w.params "raw", .str "raw" tr, rv⟩, ⟨PyData.keyHash w.params "n", .str "n" tn0, .int S.n tn⟩, ⟨PyData.keyHash w.params "nt", .str "nt" tt0, .int S.nt tnt⟩, ⟨PyData.keyHash w.params "norm", .str "norm" to, .ref nrm⟩,
    ⟨PyData.keyHash w.params "is_simple", .str "is_simple" ti, .bool (decide ((S.count.length : Int) ≤ 1))⟩] 5), (nrm, { cls := .type "tuple", data := .seq #[.ref ct, .int S.b tb] }), (ct, { cls := .type "tuple", data := .seq vs.toArray })], rfl, F9, N9, ?_, ?_⟩
    · exact List.forall_mem_cons.mpr ⟨hI _ (hsub _ (.head _)), List.forall_mem_cons.mpr ⟨hI _ (hsub _ (.tail _ (.head _))), List.forall_mem_cons.mpr ⟨hI _ (hsub _ (.tail _ (.tail _ (.head _)))), List.forall_mem_cons.mpr ⟨hI _ (hsub _ (.tail _ (.tail _ (.tail _ (.head _))))), List.forall_mem_nil _⟩⟩⟩⟩
    · refine' ⟨_, _, fun p hp => hp, ?meq⟩
      case meq => (intro y; unfold im; (rcases Classical.em (y = "i") with rfl | h0); exact rfl; (rcases Classical.em (y = "il") with rfl | h1); exact rfl; (rcases Classical.em (y = "trailing") with rfl | h2); exact rfl; (rcases Classical.em (y = "count") with rfl | h3); exact rfl; (rcases Classical.em (y = "tabsize") with rfl | h4); exact rfl; (rcases Classical.em (y = "self") with rfl | h5); exact rfl; (try simp only [if_neg h0, if_neg h1, if_neg h2, if_neg h3, if_neg h4, if_neg h5]); (first | done | exact rfl | (show List.lookup y (_ :: _) = none; simp only [List.lookup, beq_eq_false_iff_ne.mpr h0, beq_eq_false_iff_ne.mpr h1, beq_eq_false_iff_ne.mpr h2, beq_eq_false_iff_ne.mpr h3, beq_eq_false_iff_ne.mpr h4, beq_eq_false_iff_ne.mpr h5]) | (simp only [List.lookup, beq_eq_false_iff_ne.mpr h0, beq_eq_false_iff_ne.mpr h1, beq_eq_false_iff_ne.mpr h2, beq_eq_false_iff_ne.mpr h3, beq_eq_false_iff_ne.mpr h4, beq_eq_false_iff_ne.mpr h5]; done)))
  case done =>
    intro m₁ news₁ h6 tk6 hJ F6 N6
    obtain ⟨til, iv, hsub, hm⟩ := hJ
    replace F6 := Fr.congr F6 hm
    have N7 := cb_drop N6 hsub
    try clear F5 N5
    unfold im at F6
    (try dsimp only)
    ((repeat' (first | (k_unfold; (try dsimp only)) | ((with_reducible first | show wpAny _ _ (exec _ _) _ _ _ | show wpAny _ _ (execs _ _) _ _ _); k_fold) | (k_end; wrow_close) | walk1 | (dsimp only; walk1) | (leave1; (try dsimp only)))) <;> (repeat (k_unfold; (try dsimp only))))
    (try dsimp only)
    rename Fr _ _ _ _ => F9
    rename News _ _ _ _ => N9
    exact ret _ _ _ _ F9.keep (fun r hr => ⟨(N9 r hr).1, (N9 r hr).2.2⟩) ⟨⟨_, rfl⟩, rfl⟩
theorem eqvAll_strs : ∀ xs ys : List Str, PyData.eqvAll (xs.map PyData.str) (ys.map PyData.str) = decide (xs = ys)
  | [], [] => by simp [PyData.eqvAll]
  | [], _ :: _ => by simp [PyData.eqvAll]
  | _ :: _, [] => by simp [PyData.eqvAll]
  | a :: r, b :: t => by
    simp only [List.map_cons, PyData.eqvAll, PyData.eqv, eqvAll_strs r t]
    by_cases h : a = b <;> by_cases h' : r = t <;> simp [h, h']
theorem lay_strs : ∀ xs : List Str, (∀ x ∈ xs, PyData.strOk x = true) → PyData.canLayAll0 (xs.map PyData.str) = true
  | [], _ => rfl
  | x :: r, h => by
    have := lay_strs r fun y hy => h y (.tail _ hy)
    simp [PyData.canLayAll0, PyData.canLay0, this, h x (.head _)]
theorem depth_strs : ∀ xs : List Str, PyData.depthAll (xs.map PyData.str) = 0
  | [] => rfl
  | _ :: r => by simp [PyData.depthAll, PyData.depth, depth_strs r]
theorem carried_strs : ∀ {vs : List Value} {xs : List Str}, StrsAre vs xs → CarriedAll vs (xs.map PyData.str)
  | _, _, .nil => .nil
  | _, _, .cons _ t r => .cons (.str _ t) (carried_strs r)
theorem shaped_strs (xs : List Str) (h : ∀ x ∈ xs, PyData.strOk x = true) : SeqAt.shaped (.list (xs.map PyData.str)) = true := by
  simp [SeqAt.shaped, PyData.canLay0, PyData.depth, lay_strs xs h, depth_strs]
section
variable {prog : Program} {w : World} {A : Around} {E : Value → Shared → Prop} {s : Shared} {a b : Addr} {vs us : List Value} {xs ys : List Str} {Q : Value → Shared → Prop}
theorem ne_strs (ha : s.heap.IsList a vs.toArray) (hb : s.heap.IsList b us.toArray) (hi : StrsAre vs xs) (hj : StrsAre us ys) (h1 : ∀ x ∈ xs, PyData.strOk x = true) (h2 : ∀ x ∈ ys, PyData.strOk x = true) (hu : A.units + 64 < cLine)
    (h : Q (.bool (!decide (xs = ys))) s) : wpAny (model prog w) A (compareOp .NotEq (.ref a) (.ref b)) Q E s :=
  ne_dataH (reads_newData ha (carried_strs hi)) (reads_newData hb (carried_strs hj)) (shaped_strs _ h1) (shaped_strs _ h2) hu (by rw [PyData.eqv, eqvAll_strs]; exact h)
theorem eq_strs (ha : s.heap.IsList a vs.toArray) (hb : s.heap.IsList b us.toArray) (hi : StrsAre vs xs) (hj : StrsAre us ys) (h1 : ∀ x ∈ xs, PyData.strOk x = true) (h2 : ∀ x ∈ ys, PyData.strOk x = true) (hu : A.units + 64 < cLine)
    (h : Q (.bool (decide (xs = ys))) s) : wpAny (model prog w) A (compareOp .Eq (.ref a) (.ref b)) Q E s :=
  eq_dataH (reads_newData ha (carried_strs hi)) (reads_newData hb (carried_strs hj)) (shaped_strs _ h1) (shaped_strs _ h2) hu (by rw [PyData.eqv, eqvAll_strs]; exact h)
end
theorem reads_norm {h : Heap} {nrm ct : Addr} {o1 o2 : Obj} {n1 n2 : Nat} {b : Int} {tb : Tok} {vs : List Value} {ns : List Int} (e1 : h.get? nrm = some o1) (c1 : o1.cls = .type "tuple") (d1 : o1.data = .seq #[.ref ct, .int b tb] n1)
    (e2 : h.get? ct = some o2) (c2 : o2.cls = .type "tuple") (d2 : o2.data = .seq vs.toArray n2) (hi : IntsAre vs ns) : ∃ as, Reads h (.ref nrm) (.tuple [.tuple (ns.map PyData.int), .int b]) as :=
  ⟨_, reads_tuple_at e1 c1 d1 (.cons (reads_tuple_at e2 c2 d2 ((ke_carried hi).reads h)) (.cons (.int _ _) .nil))⟩
theorem shaped_norm (ns : List Int) (b : Int) : SeqAt.shaped (.tuple [.tuple (ns.map PyData.int), .int b]) = true := by
  simp [SeqAt.shaped, PyData.canLay0, PyData.canLayAll0, PyData.depth, PyData.depthAll, ke_canLayAll0, ke_depthAll]
theorem eqv_norm (ns ms : List Int) (b c : Int) : PyData.eqv (.tuple [.tuple (ns.map PyData.int), .int b]) (.tuple [.tuple (ms.map PyData.int), .int c]) = decide (ns = ms ∧ b = c) := by
  simp only [PyData.eqv, PyData.eqvAll, ked_eqvAll]
  by_cases h : ns = ms <;> by_cases h' : b = c <;> simp [h, h']
theorem eq_norms {prog : Program} {w : World} {A : Around} {E : Value → Shared → Prop} {s : Shared} {Q : Value → Shared → Prop} {nrm nrm' : Addr} {ns ms : List Int} {b c : Int}
    (h1 : ∃ as, Reads s.heap (.ref nrm) (.tuple [.tuple (ns.map PyData.int), .int b]) as) (h2 : ∃ as, Reads s.heap (.ref nrm') (.tuple [.tuple (ms.map PyData.int), .int c]) as) (hu : A.units + 64 < cLine)
    (h : Q (.bool (decide (ns = ms ∧ b = c))) s) : wpAny (model prog w) A (compareOp .Eq (.ref nrm) (.ref nrm')) Q E s := by
  obtain ⟨as, h1⟩ := h1
  obtain ⟨bs, h2⟩ := h2
  exact eq_dataH h1 h2 (shaped_norm _ _) (shaped_norm _ _) hu (by rw [eqv_norm]; exact h)
theorem equal_c (w : World) (x y : Addr) (S S' : WsSt) (b1 b2 : List (Addr × Obj)) (W1 : WsAt w x S b1) (W2 : WsAt w y S' b2) (hl1 : S.count.length < 10000) (hl2 : S'.count.length < 10000) :
    Con w 10 200 143 [.ref x, .ref y] (b1 ++ b2) (fun _ v blk' => v = .bool (decide (S.count = S'.count ∧ (S.b : Int) = S'.b)) ∧ blk' = b1 ++ b2) := by
  obtain ⟨dx, nrm, ct, rv, tr, tn0, tn, tt0, tnt, to, ti, tb, vs, hvs, rfl⟩ := W1
  obtain ⟨dx', nrm', ct', rv', tr', tn0', tn', tt0', tnt', to', ti', tb', vs', hvs', rfl⟩ := W2
  have hl5 := hvs.length
  have hl6 := hvs'.length
  simp only [List.cons_append, List.nil_append]
  unfold Con
  k_fill
  intro dp un gd outer base g tp tl mean mg mb s R B hg hsz hsel X T hd hu ret
  refine' enter_g B hg hsz hsel X T ?k6 ?k7 ?k8 ?k9 ?kB ?_ ?c2 ?c3 ?c4 ?c5
  (case k6 => k_is); (case k7 => k_is); (case k8 => ktr_room); (case k9 => exact BindsTo.of_eq rfl); (case c5 => decide); (case kB => exact locs rfl); (case c2 => exact rfl); (case c3 => exact rfl); (case c4 => exact rfl)
  k_whole
  intro L' h' tk' F' N' l1
  (try dsimp only); (try k_fold)
  ((repeat' ((fail_if_success (with_reducible show wpAny _ _ (compareOp _ _ _) _ _ _)); (first | (k_unfold; (try dsimp only)) | ((with_reducible first | show wpAny _ _ (exec _ _) _ _ _ | show wpAny _ _ (execs _ _) _ _ _); k_fold) | (k_end; wrow_close) | walk1 | (dsimp only; walk1) | (leave1; (try dsimp only))))) <;> (repeat (k_unfold; (try dsimp only))))
  rename Fr _ _ _ _ => F9
  rename News _ _ _ _ => N9
  refine eq_norms (reads_norm (News.get N9 (by k_mem)) rfl rfl (News.get N9 (by k_mem)) rfl rfl hvs) (reads_norm (News.get N9 (by k_mem)) rfl rfl (News.get N9 (by k_mem)) rfl rfl hvs') (by ke_room) ?_
  (try dsimp only)
  ((repeat' (first | (k_unfold; (try dsimp only)) | ((with_reducible first | show wpAny _ _ (exec _ _) _ _ _ | show wpAny _ _ (execs _ _) _ _ _); k_fold) | (k_end; wrow_close) | walk1 | (dsimp only; walk1) | (leave1; (try dsimp only)))) <;> (repeat (k_unfold; (try dsimp only))))
  (try dsimp only)
  exact ret _ _ _ _ F9.keep (fun r hr => ⟨(N9 r hr).1, (N9 r hr).2.2⟩) ⟨rfl, rfl⟩
theorem less_c (w : World) (x y : Addr) (S S' : WsSt) (b1 b2 : List (Addr × Obj)) (W1 : WsAt w x S b1) (W2 : WsAt w y S' b2) (hl1 : S.count.length ≤ 1) (hl2 : S'.count.length ≤ 1) (hnt : S.nt ≤ S'.nt) :
    Con w 10 100 157 [.ref x, .ref y] (b1 ++ b2) (fun _ v blk' => v = .bool (decide (S.n < S'.n)) ∧ blk' = b1 ++ b2) := by
  obtain ⟨dx, nrm, ct, rv, tr, tn0, tn, tt0, tnt, to, ti, tb, vs, hvs, rfl⟩ := W1
  obtain ⟨dx', nrm', ct', rv', tr', tn0', tn', tt0', tnt', to', ti', tb', vs', hvs', rfl⟩ := W2
  have hl5 := hvs.length
  have hl6 := hvs'.length
  have q1 : decide ((S.count.length : Int) ≤ 1) = true := decide_eq_true (by omega)
  have q2 : decide ((S'.count.length : Int) ≤ 1) = true := decide_eq_true (by omega)
  simp only [List.cons_append, List.nil_append, q1, q2]
  unfold Con
  k_fill
  intro dp un gd outer base g tp tl mean mg mb s R B hg hsz hsel X T hd hu ret
  refine' enter_g B hg hsz hsel X T ?k6 ?k7 ?k8 ?k9 ?kB ?_ ?c2 ?c3 ?c4 ?c5
  (case k6 => k_is); (case k7 => k_is); (case k8 => ktr_room); (case k9 => exact BindsTo.of_eq rfl); (case c5 => decide); (case kB => exact locs rfl); (case c2 => exact rfl); (case c3 => exact rfl); (case c4 => exact rfl)
  k_whole
  intro L' h' tk' F' N' l1
  (try dsimp only); (try k_fold)
  ((repeat' (first | (k_unfold; (try dsimp only)) | ((with_reducible first | show wpAny _ _ (exec _ _) _ _ _ | show wpAny _ _ (execs _ _) _ _ _); k_fold) | (k_end; wrow_close) | walk1 | (dsimp only; walk1) | (leave1; (try dsimp only)))) <;> (repeat (k_unfold; (try dsimp only))))
  all_goals
    (try dsimp only)
    rename Fr _ _ _ _ => F9
    rename News _ _ _ _ => N9
    refine ret _ _ _ _ F9.keep (fun r hr => ⟨(N9 r hr).1, (N9 r hr).2.2⟩) ⟨?_, rfl⟩
    refine congrArg Value.bool ?_
    first | (exact (decide_eq_false (by omega)).symm) | (exact (decide_eq_true (by omega)).trans (decide_eq_true (by omega)).symm)
theorem fdiv_nn (a b : Nat) : Int.fdiv (a : Int) (b : Int) = ((a / b : Nat) : Int) := by
  rw [Int.fdiv_eq_ediv_of_nonneg _ (Int.natCast_nonneg _)]; exact (Int.natCast_ediv _ _).symm
theorem fmod_nn (a b : Nat) : Int.fmod (a : Int) (b : Int) = ((a % b : Nat) : Int) := by
  rw [Int.fmod_eq_emod_of_nonneg _ (Int.natCast_nonneg _)]; exact (Int.natCast_emod _ _).symm
theorem cast_pow2 (k : Nat) : (2 : Int) ^ k = ((2 ^ k : Nat) : Int) := by simp
theorem fdiv_pow2 (x k : Nat) : Int.fdiv (x : Int) (2 ^ (Int.toNat (k : Int))) = ((x / 2 ^ k : Nat) : Int) := by
  rw [Int.toNat_natCast, cast_pow2, fdiv_nn]
theorem mul_pow2 (x k : Nat) : (x : Int) * 2 ^ (Int.toNat (k : Int)) = ((x * 2 ^ k : Nat) : Int) := by
  rw [Int.toNat_natCast, cast_pow2]; simp
theorem bits_lt {a m : Nat} (h : a < 2 ^ m) : Builtin.Int.intBits (a : Int) ≤ m := PySem.intBits_le_iff.mpr (by simpa using h)
theorem lt_bits (a : Nat) : a < 2 ^ Builtin.Int.intBits (a : Int) := by
  have := PySem.intBits_le_iff.mp (Nat.le_refl (Builtin.Int.intBits (a : Int)))
  simpa using this
theorem and_mul_pow2 (x y k : Nat) : x &&& (y * 2 ^ k) = (x / 2 ^ k &&& y) * 2 ^ k := by
  apply Nat.eq_of_testBit_eq
  intro i
  rw [Nat.testBit_and, Nat.testBit_mul_two_pow, Nat.testBit_mul_two_pow, Nat.testBit_and, Nat.testBit_div_two_pow]
  by_cases h : k ≤ i
  · simp [h, Nat.sub_add_cancel h]
  · simp [h]
theorem xor_low (x k : Nat) : Builtin.bitXor (x : Int) ((x / 2 ^ k * 2 ^ k : Nat) : Int) = ((x % 2 ^ k : Nat) : Int) := by
  rw [bitXor_and, bitAnd_pp (Int.natCast_nonneg _) (Int.natCast_nonneg _), Int.toNat_natCast, Int.toNat_natCast, and_mul_pow2, Nat.and_self]
  have := Nat.div_add_mod x (2 ^ k)
  rw [Nat.mul_comm] at this
  omega
/-- digit i of x to the base 2 ^ n -/
noncomputable def dig (n x i : Nat) : Nat := x / 2 ^ (n * i) % 2 ^ n
theorem dig_low {n x i j : Nat} (h : i < j) : dig n (x % 2 ^ (n * j)) i = dig n x i := by
  unfold dig
  rw [show n * j = n * i + n * (j - i) from by rw [← Nat.mul_add]; congr 1; omega, Nat.pow_add, Nat.mod_mul_right_div_self]
  apply Nat.mod_mod_of_dvd
  exact Nat.pow_dvd_pow 2 (Nat.le_mul_of_pos_right n (by omega))
theorem dig_high {n x i j : Nat} (h : j ≤ i) : dig n (x / 2 ^ (n * j)) (i - j) = dig n x i := by
  unfold dig
  rw [Nat.div_div_eq_div_mul, ← Nat.pow_add, ← Nat.mul_add, Nat.add_sub_cancel' h]
theorem dig_zero {n x : Nat} (h : x < 2 ^ n) : dig n x 0 = x := by
  unfold dig
  simp [Nat.mod_eq_of_lt h]
section
variable {prog : Program} {w : World} {A : Around} {s : Shared} {env : Env} {h₀ : Heap} {L : Addr}
/-- a for over an iterator of a made object l that no turn changes; the iterator's cell stands at the ledger's end -/
theorem for_src {R : Result → Shared → Prop} {y : Str} {px : Pos} {body : List Stmt} {m : Str → Option Value} {news : List (Addr × Obj)} {I l : Addr} {lo : Obj} {n : Nat} {P : Nat → Value → Prop} {St : Nat → Heap → Prop}
    (W : Walks prog w A I [I, l] [I] n P St) (hSt : ∀ i h, St i h → ∃ o, h.get? I = some o) (hIn : h₀.get? I = none) (hLI : L ≠ I) (hLl : L ≠ l) (hnI : ∀ p ∈ news, p.1 ≠ I)
    (hx : env.kindOf y = some .local) (hk : env.scope.kind = .function) (hL : env.locals = L) (hst : St 0 s.heap) (F : Fr h₀ L s.heap m) (N : News h₀ L s.heap news)
    (J : Nat → (Str → Option Value) → List (Addr × Obj) → Prop) (hJ : ∀ i m nw, J i m nw → (l, lo) ∈ nw) (h0 : J 0 m news)
    (turn : ∀ i v m₁ news₁ h tk oI, i < n → P i v → J i m₁ news₁ → (∀ p ∈ news₁, p.1 ≠ I) → Fr h₀ L h (fun z => if z = y then some v else m₁ z) → News h₀ L h (news₁ ++ [(I, oI)]) →
      wpAny (model prog w) A (execs body env) (fun f s₂ => match f with
        | .next | .cont => Left (∃ h' tk m' nx, s₂ = { s with heap := h', toks := tk } ∧ Fr h₀ L h' m' ∧ News h₀ L h' (nx ++ [(I, oI)]) ∧ (∀ p ∈ nx, p.1 ≠ I) ∧ J (i + 1) m' nx)
        | .brk => R (.ok .next) s₂
        | .ret v => R (.ok (.ret v)) s₂) (fun _ _ => False) { s with heap := h, toks := tk })
    (done : ∀ m' news' h' tk, J n m' news' → Fr h₀ L h' m' → News h₀ L h' news' → R (.ok .next) { s with heap := h', toks := tk }) :
    codeAny (model prog w) A (.forLoop (.Name y px) (.ref I) body [] env) R s := by
  refine for_W W hx hk hL (by simp [hLI, hLl]) (by simpa using hIn) (fun p hp => by simpa using hnI p hp) hst F N J h0 ?_ done
  intro i v m₁ news₁ h tk own hi hP hJi hnw ho ho2 ho3 hS F₁ N₁
  obtain ⟨oI, hoI⟩ := hSt _ _ hS
  have hIo : (I, oI) ∈ own := ho3 _ (.head _) hIn _ hoI
  have hll := hJ _ _ _ hJi
  have hlo : h.get? l = some lo := (N₁ _ (List.mem_append_left _ hll)).1
  refine wpAny_mono (turn i v m₁ news₁ h tk oI hi hP hJi (fun p hp => by simpa using hnw p hp) F₁ ?_) (fun f s₂ z => ?_) (fun _ _ z => z)
  · intro p hp
    rcases List.mem_append.mp hp with hp | hp
    · exact N₁ p (List.mem_append_left _ hp)
    · rw [List.mem_singleton.mp hp]; exact N₁ _ (List.mem_append_right _ hIo)
  have key : (∃ h' tk m' nx, s₂ = { s with heap := h', toks := tk } ∧ Fr h₀ L h' m' ∧ News h₀ L h' (nx ++ [(I, oI)]) ∧ (∀ p ∈ nx, p.1 ≠ I) ∧ J (i + 1) m' nx) → TurnEnd h₀ L (J (i + 1)) own [I] s s₂ := by
    rintro ⟨h', tk', m', nx, rfl, F', N', k1, k2⟩
    refine ⟨h', tk', m', nx, _, rfl, F', N', fun p hp => ?_, fun p hp => List.mem_append_left _ hp, fun p hp => by simpa using k1 p hp, k2⟩
    have e1 : p.1 = I ∨ p.1 = l := by simpa using ho p hp
    have e2 := ho2 p hp
    obtain ⟨p1, p2⟩ := p
    simp only at e1 e2
    rcases e1 with rfl | rfl
    · rw [hoI] at e2
      rw [← Option.some.inj e2]
      exact List.mem_append_right _ (.head _)
    · rw [hlo] at e2
      rw [← Option.some.inj e2]
      exact List.mem_append_left _ (hJ _ _ _ k2)
  cases f with
  | next => exact key z
  | cont => exact key z
  | brk => exact z
  | ret v => exact z

/-- a for over a made list -/
theorem for_lst {R : Result → Shared → Prop} {E : Value → Shared → Prop} {y : Str} {px : Pos} {body : List Stmt} {m : Str → Option Value} {news : List (Addr × Obj)} {l : Addr} {lo : Obj} {its : Array Value} (hh : A.handled = none)
    (hcl : lo.cls = .type "list") (hdt : ∃ k, lo.data = .seq its k)
    (hx : env.kindOf y = some .local) (hk : env.scope.kind = .function) (hL : env.locals = L) (F : Fr h₀ L s.heap m) (N : News h₀ L s.heap news)
    (J : Nat → (Str → Option Value) → List (Addr × Obj) → Prop) (hJ : ∀ i m nw, J i m nw → (l, lo) ∈ nw) (h0 : J 0 m news)
    (turn : ∀ i v m₁ news₁ h tk I oI, its[i]? = some v → J i m₁ news₁ → (∀ p ∈ news₁, p.1 ≠ I) → Fr h₀ L h (fun z => if z = y then some v else m₁ z) → News h₀ L h (news₁ ++ [(I, oI)]) →
      wpAny (model prog w) A (execs body env) (fun f s₂ => match f with
        | .next | .cont => Left (∃ h' tk m' nx, s₂ = { s with heap := h', toks := tk } ∧ Fr h₀ L h' m' ∧ News h₀ L h' (nx ++ [(I, oI)]) ∧ (∀ p ∈ nx, p.1 ≠ I) ∧ J (i + 1) m' nx)
        | .brk => R (.ok .next) s₂
        | .ret v => R (.ok (.ret v)) s₂) (fun _ _ => False) { s with heap := h, toks := tk })
    (done : ∀ m' news' h' tk, J its.size m' news' → Fr h₀ L h' m' → News h₀ L h' news' → R (.ok .next) { s with heap := h', toks := tk }) :
    wpAny (model prog w) A (pyIter (.ref l)) (fun it s₂ => codeAny (model prog w) A (.forLoop (.Name y px) it body [] env) R s₂) E s := by
  have hl := (N _ (hJ _ _ _ h0))
  have hlist : s.heap.IsList l its := ⟨lo, hl.1, hcl, hdt⟩
  have hlt : l < s.heap.objs.size := Heap.lt_size hl.1
  refine wpAny_pyIter_list hlist ?_
  refine for_src (s := { s with heap := s.heap.push _ }) (lo := lo) (Walks.list hh s.heap.objs.size l (Nat.ne_of_lt hlt) its) (fun i h st => by obtain ⟨o, e, _⟩ := st.1; exact ⟨o, e⟩) (new_none F) (Nat.ne_of_lt F.ns.lt) (Ne.symm hl.2.1)
    (fun p hp => Nat.ne_of_lt (Heap.lt_size (N p hp).1)) hx hk hL ⟨⟨_, Heap.get?_push_size _ rfl, rfl, rfl⟩, hlist.push _⟩ (F.push _)
    (fun p hp => ⟨Heap.get?_push_of_some _ (N p hp).1, (N p hp).2⟩) J hJ h0 ?_ done
  intro i v m₁ news₁ h tk oI hi hP hJi hI F₁ N₁
  exact turn i v m₁ news₁ h tk _ oI hP hJi hI F₁ N₁

/-- a for over a made tuple -/
theorem for_tup {R : Result → Shared → Prop} {E : Value → Shared → Prop} {y : Str} {px : Pos} {body : List Stmt} {m : Str → Option Value} {news : List (Addr × Obj)} {l : Addr} {lo : Obj} {its : Array Value} (hh : A.handled = none)
    (hcl : lo.cls = .type "tuple") (hdt : ∃ k, lo.data = .seq its k)
    (hx : env.kindOf y = some .local) (hk : env.scope.kind = .function) (hL : env.locals = L) (F : Fr h₀ L s.heap m) (N : News h₀ L s.heap news)
    (J : Nat → (Str → Option Value) → List (Addr × Obj) → Prop) (hJ : ∀ i m nw, J i m nw → (l, lo) ∈ nw) (h0 : J 0 m news)
    (turn : ∀ i v m₁ news₁ h tk I oI, its[i]? = some v → J i m₁ news₁ → (∀ p ∈ news₁, p.1 ≠ I) → Fr h₀ L h (fun z => if z = y then some v else m₁ z) → News h₀ L h (news₁ ++ [(I, oI)]) →
      wpAny (model prog w) A (execs body env) (fun f s₂ => match f with
        | .next | .cont => Left (∃ h' tk m' nx, s₂ = { s with heap := h', toks := tk } ∧ Fr h₀ L h' m' ∧ News h₀ L h' (nx ++ [(I, oI)]) ∧ (∀ p ∈ nx, p.1 ≠ I) ∧ J (i + 1) m' nx)
        | .brk => R (.ok .next) s₂
        | .ret v => R (.ok (.ret v)) s₂) (fun _ _ => False) { s with heap := h, toks := tk })
    (done : ∀ m' news' h' tk, J its.size m' news' → Fr h₀ L h' m' → News h₀ L h' news' → R (.ok .next) { s with heap := h', toks := tk }) :
    wpAny (model prog w) A (pyIter (.ref l)) (fun it s₂ => codeAny (model prog w) A (.forLoop (.Name y px) it body [] env) R s₂) E s := by
  have hl := (N _ (hJ _ _ _ h0))
  have htup : s.heap.IsTuple l its := ⟨lo, hl.1, hcl, hdt⟩
  have hlt : l < s.heap.objs.size := Heap.lt_size hl.1
  refine wpAny_pyIter_tuple htup ?_
  refine for_src (s := { s with heap := s.heap.push _ }) (lo := lo) (Walks.tuple hh s.heap.objs.size l (Nat.ne_of_lt hlt) its) (fun i h st => by obtain ⟨o, e, _⟩ := st.1; exact ⟨o, e⟩) (new_none F) (Nat.ne_of_lt F.ns.lt) (Ne.symm hl.2.1)
    (fun p hp => Nat.ne_of_lt (Heap.lt_size (N p hp).1)) hx hk hL ⟨⟨_, Heap.get?_push_size _ rfl, rfl, rfl⟩, htup.push _⟩ (F.push _)
    (fun p hp => ⟨Heap.get?_push_of_some _ (N p hp).1, (N p hp).2⟩) J hJ h0 ?_ done
  intro i v m₁ news₁ h tk oI hi hP hJi hI F₁ N₁
  exact turn i v m₁ news₁ h tk _ oI hP hJi hI F₁ N₁

/-- a for over reversed(l) of a made list -/
theorem for_rev {R : Result → Shared → Prop} {E : Value → Shared → Prop} {y : Str} {px : Pos} {body : List Stmt} {m : Str → Option Value} {news : List (Addr × Obj)} {I l : Addr} {lo : Obj} {its : Array Value} (hh : A.handled = none)
    (hcl : lo.cls = .type "list") (hdt : ∃ k, lo.data = .seq its k) (hnI : ∀ p ∈ news, p.1 ≠ I)
    (hx : env.kindOf y = some .local) (hk : env.scope.kind = .function) (hL : env.locals = L) (F : Fr h₀ L s.heap m) (N : News h₀ L s.heap ((I, revObj l ((its.size : Int) - 1)) :: news))
    (J : Nat → (Str → Option Value) → List (Addr × Obj) → Prop) (hJ : ∀ i m nw, J i m nw → (l, lo) ∈ nw) (h0 : J 0 m news)
    (turn : ∀ i v m₁ news₁ h tk oI, i < its.size → its[its.size - 1 - i]? = some v → J i m₁ news₁ → (∀ p ∈ news₁, p.1 ≠ I) → Fr h₀ L h (fun z => if z = y then some v else m₁ z) → News h₀ L h (news₁ ++ [(I, oI)]) →
      wpAny (model prog w) A (execs body env) (fun f s₂ => match f with
        | .next | .cont => Left (∃ h' tk m' nx, s₂ = { s with heap := h', toks := tk } ∧ Fr h₀ L h' m' ∧ News h₀ L h' (nx ++ [(I, oI)]) ∧ (∀ p ∈ nx, p.1 ≠ I) ∧ J (i + 1) m' nx)
        | .brk => R (.ok .next) s₂
        | .ret v => R (.ok (.ret v)) s₂) (fun _ _ => False) { s with heap := h, toks := tk })
    (done : ∀ m' news' h' tk, J its.size m' news' → Fr h₀ L h' m' → News h₀ L h' news' → R (.ok .next) { s with heap := h', toks := tk }) :
    wpAny (model prog w) A (pyIter (.ref I)) (fun it s₂ => codeAny (model prog w) A (.forLoop (.Name y px) it body [] env) R s₂) E s := by
  have N1 : News h₀ L s.heap news := fun p hp => N p (.tail _ hp)
  have hl := (N1 _ (hJ _ _ _ h0))
  have hlist : s.heap.IsList l its := ⟨lo, hl.1, hcl, hdt⟩
  have hI := N (I, _) (.head _)
  have hit : s.heap.IsRevIter I l ((its.size : Int) - 1) := ⟨_, hI.1, rfl, rfl⟩
  refine wpAny_pyIter_revIter hit ?_
  refine for_src (lo := lo) (Walks.listRev hh I l (fun e => hnI _ (hJ _ _ _ h0) e) its) (fun i h st => by obtain ⟨o, e, _⟩ := st.2.1; exact ⟨o, e⟩) hI.2.2 (Ne.symm hI.2.1) (Ne.symm hl.2.1)
    hnI hx hk hL ⟨Nat.zero_le _, by simpa using hit, hlist⟩ F N1 J hJ h0 ?_ done
  intro i v m₁ news₁ h tk oI hi hP hJi hI F₁ N₁
  exact turn i v m₁ news₁ h tk oI hi hP hJi hI F₁ N₁
end
/-- a new pair of ints -/
noncomputable def PairAt (T : Addr) (q r : Int) (blk : List (Addr × Obj)) : Prop := ∃ tq tr, blk = [(T, { cls := .type "tuple", data := .seq #[.int q tq, .int r tr] })]
theorem noPy {x : Int} {b : Nat} (h : b < 2 ^ 4000) : Builtin.divisionGoesByPylong x (b : Int) = false := PyProof.noPylong_of_log2 (by
  by_cases h0 : b = 0
  · subst h0; decide +kernel
  · have : b.log2 < 4000 := (Nat.log2_lt h0).mpr h
    simp; omega)
theorem div2n1n_c (w : World) (a b n : Nat) (ta tb tn : Tok) (hb : 0 < b) (ha : a < 2 ^ 4000) (hb2 : b < 2 ^ 4000) :
    Con w 4 60 28 [.int a ta, .int b tb, .int n tn] [] (fun _ v blk => ∃ T, v = .ref T ∧ PairAt T (a / b : Nat) (a % b : Nat) blk) := by
  have h1 := bits_lt ha
  have hp := noPy (x := a) hb2
  clear ha hb2
  unfold Con
  k_fill
  intro dp un gd outer base g tp tl mean mg mb s R B hg hsz hsel X T hd hu ret
  refine' enter_g B hg hsz hsel X T ?k6 ?k7 ?k8 ?k9 ?kB ?_ ?c2 ?c3 ?c4 ?c5
  (case k6 => k_is); (case k7 => k_is); (case k8 => ktr_room); (case k9 => exact BindsTo.of_eq rfl); (case c5 => decide); (case kB => exact locs rfl); (case c2 => exact rfl); (case c3 => exact rfl); (case c4 => exact rfl)
  k_whole
  intro L' h' tk' F' N' l1
  (try dsimp only); (try k_fold)
  ((repeat' ((fail_if_success (with_reducible show wpAny _ _ (call (Value.builtin "divmod") _) _ _ _)); (first | (k_unfold; (try dsimp only)) | ((with_reducible first | show wpAny _ _ (exec _ _) _ _ _ | show wpAny _ _ (execs _ _) _ _ _); k_fold) | (k_end; wrow_close) | walk1 | (dsimp only; walk1) | (leave1; (try dsimp only))))) <;> (repeat (k_unfold; (try dsimp only))))
  rename Fr _ _ _ _ => F1
  rename News _ _ _ _ => N1
  refine divmod_N F1 N1 (by omega) ?_ (.inl hp)
  intro h2 F2 N2
  rw [fdiv_nn, fmod_nn] at N2
  (try dsimp only)
  ((repeat' (first | (k_unfold; (try dsimp only)) | ((with_reducible first | show wpAny _ _ (exec _ _) _ _ _ | show wpAny _ _ (execs _ _) _ _ _); k_fold) | (k_end; wrow_close) | walk1 | (dsimp only; walk1) | (leave1; (try dsimp only)))) <;> (repeat (k_unfold; (try dsimp only))))
  (try dsimp only)
  exact ret _ _ _ _ F2.keep (fun r hr => ⟨(N2 r hr).1, (N2 r hr).2.2⟩) ⟨_, rfl, _, _, rfl⟩
section
variable {prog : Program} {w : World} {A : Around} {E : Value → Shared → Prop} {s : Shared} {t u : Tok} {Q : Value → Shared → Prop}
theorem half_nn {a b : Nat} (h : Q (.int (((a + b) / 2 : Nat) : Int) s.toks) { s with toks := s.toks + 1 }) : wpAny (model prog w) A (binaryOp .RShift (.int ((a : Int) + (b : Int)) t) (.int 1 u)) Q E s := by
  refine rshift_int (by decide) ?_
  have e : Int.fdiv ((a : Int) + (b : Int)) (2 ^ Int.toNat 1) = (((a + b) / 2 : Nat) : Int) := by
    have := fdiv_pow2 (a + b) 1
    simpa using this
  rw [e]; exact h
theorem shr_nn {x k : Nat} (h : Q (.int ((x / 2 ^ k : Nat) : Int) s.toks) { s with toks := s.toks + 1 }) : wpAny (model prog w) A (binaryOp .RShift (.int (x : Int) t) (.int (k : Int) u)) Q E s := by
  refine rshift_int (Int.natCast_nonneg _) ?_
  rw [fdiv_pow2]; exact h
theorem shl_nn {x k m : Nat} (hx : x < 2 ^ m) (hm : m + k ≤ 2 ^ 27) (h : Q (.int ((x * 2 ^ k : Nat) : Int) s.toks) { s with toks := s.toks + 1 }) : wpAny (model prog w) A (binaryOp .LShift (.int (x : Int) t) (.int (k : Int) u)) Q E s := by
  refine lshift_int (Int.natCast_nonneg _) ?_ ?_
  · have := bits_lt hx
    have e : (2 : Int) ^ 27 = 134217728 := by decide
    rw [e]
    have e2 : (2 : Nat) ^ 27 = 134217728 := by decide
    rw [e2] at hm
    omega
  · rw [mul_pow2]; exact h
theorem xor_nn {x k : Nat} (h : Q (.int ((x % 2 ^ k : Nat) : Int) s.toks) { s with toks := s.toks + 1 }) : wpAny (model prog w) A (binaryOp .BitXor (.int (x : Int) t) (.int ((x / 2 ^ k * 2 ^ k : Nat) : Int) u)) Q E s := by
  refine xor_int ?_
  rw [xor_low]; exact h
theorem mulsub_nn {m l n : Nat} (hlm : l ≤ m) (hn : n < 5000) (h : Q (.int ((n * (m - l) : Nat) : Int) s.toks) { s with toks := s.toks + 1 }) : wpAny (model prog w) A (binaryOp .Mult (.int ((m : Int) - (l : Int)) t) (.int (n : Int) u)) Q E s := by
  refine mul_int ?_ (PySem.IntMulOk.of_right (PySem.intBits_le_64 (by omega) (by omega)))
  have e : ((m : Int) - (l : Int)) * (n : Int) = ((n * (m - l) : Nat) : Int) := by
    rw [Int.natCast_mul, Int.natCast_sub hlm, Int.mul_comm]
  rw [e]; exact h
end
noncomputable abbrev innerIL (rd c lst cA cI cN : Addr) (oc oA oI oN : Obj) (name qual : Str) (params : Arguments) (body : List Stmt) (scope : Scope) (doc pm ct : Value) (vals : List Value) (k : Nat) : List (Addr × Obj) :=
  [(rd, { cls := .type "function", data := .func (fnX name qual params body scope [("n", cN), ("inner", cI), ("a_digits", cA)] .none .none doc pm none (.ref c) ct) }), (c, oc), (lst, listOf vals.toArray k), (cA, oA), (cI, oI), (cN, oN)]
theorem innerI_c (w : World) (rd c lst cA cI cN : Addr) (oc oA oI oN : Obj) (name qual : Str) (params : Arguments) (body : List Stmt) (scope : Scope) (doc pm ct : Value) (vs : Array Value) (tq : Tok) (n : Nat) (un : Tok)
    (hdef : nestedDef ((hd.heap_1 w.params).lookup 42) 1 = some (params, body, scope)) (hcd : oc.data = .fields vs) (hvs : vs[1]? = some (.str qual tq)) (hA : oA.data = .cell (some (.ref lst))) (hI : oI.data = .cell (some (.ref rd))) (hN : oN.data = .cell (some (.int (n : Int) un)))
    (n1 : lst ≠ rd) (n2 : lst ≠ c) (n3 : lst ≠ cA) (n4 : lst ≠ cI) (n5 : lst ≠ cN) (hn : 0 < n) (hn2 : n < 5000) (d : Nat) :
    ∀ (vals : List Value) (ns : List Int) (k : Nat) (x : Nat) (Lo Hi : Nat) (tx tL tR : Tok), IntsAre vals ns → ns.length ≤ 5000 → Lo < Hi → Hi ≤ ns.length → Hi - Lo ≤ d → x < 2 ^ (n * (Hi - Lo)) → x < 2 ^ 5000 →
    Con w (d + 2) (4 * d + 40) rd [.int x tx, .int Lo tL, .int Hi tR] (innerIL rd c lst cA cI cN oc oA oI oN name qual params body scope doc pm ct vals k)
      (fun _ v blk => v = .none ∧ ∃ vals' ns' k', IntsAre vals' ns' ∧ ns'.length = ns.length ∧ (∀ i, ns'.getD i 0 = if Lo ≤ i ∧ i < Hi then ((dig n x (i - Lo) : Nat) : Int) else ns.getD i 0) ∧ blk = innerIL rd c lst cA cI cN oc oA oI oN name qual params body scope doc pm ct vals' k') := by
  induction d with
  | zero => intro vals ns k x Lo Hi tx tL tR hv hl hLR hR hd0; exact absurd hd0 (by omega)
  | succ d IH =>
  intro vals ns k x Lo Hi tx tL tR hv hl hLR hR hd0 hxs hx
  have hlv := hv.length
  revert hdef
  unfold Con
  k_fill
  intro hdef dp un' gd outer base g tp tl mean mg mb s R B hg hsz hsel X T hd hu ret
  have hdef0 := hdef
  refine' nested_out ?hl hdef ?_
  (case hl => k_is)
  clear hdef
  intro hdef
  cases hdef
  refine' enter_m hg hsz hsel T (.head _) rfl (.tail _ (.head _)) hcd hvs ?k8 ?k9 ?kB ?_ ?c2 ?c3 ?c4 ?c5
  (case k8 => k_room); (case k9 => exact BindsTo.of_eq rfl); (case c5 => decide); (case kB => exact locs rfl); (case c2 => exact rfl); (case c3 => exact rfl); (case c4 => exact rfl)
  intro L' h' tk' F' N' l1
  (try dsimp only); (try k_fold)
  have codeHd := codeHd_of_K (c := 41) (P := 37) X (by kernel_rfl)
  simp only [innerIL] at N'
  have hLm : Lo ≤ (Lo + Hi) / 2 := by omega
  have hup : x / 2 ^ (n * ((Lo + Hi) / 2 - Lo)) < 2 ^ 5000 := Nat.lt_of_le_of_lt (Nat.div_le_self _ _) hx
  have hsh : 5000 + n * ((Lo + Hi) / 2 - Lo) ≤ 2 ^ 27 := by
    have h1 : n * ((Lo + Hi) / 2 - Lo) ≤ 5000 * 5000 := Nat.mul_le_mul (by omega) (by omega)
    have e2 : (2 : Nat) ^ 27 = 134217728 := by decide
    omega
  ((repeat' ((fail_if_success (with_reducible show wpAny _ _ (call (Value.ref rd) _) _ _ _)); (first | ((with_reducible show wpAny _ _ (binaryOp Operator.RShift _ (Value.int 1 _)) _ _ _); refine half_nn ?_) | ((with_reducible show wpAny _ _ (binaryOp Operator.RShift _ _) _ _ _); refine shr_nn ?_) | ((with_reducible show wpAny _ _ (binaryOp Operator.LShift _ _) _ _ _); refine shl_nn hup hsh ?_) | ((with_reducible show wpAny _ _ (binaryOp Operator.BitXor _ _) _ _ _); refine xor_nn ?_) | ((with_reducible show wpAny _ _ (binaryOp Operator.Mult _ _) _ _ _); refine mulsub_nn hLm hn2 ?_) | (k_unfold; (try dsimp only)) | ((with_reducible first | show wpAny _ _ (exec _ _) _ _ _ | show wpAny _ _ (execs _ _) _ _ _); k_fold) | (k_end; wrow_close) | walk1 | (dsimp only; walk1) | (leave1; (try dsimp only))))) <;> (repeat (k_unfold; (try dsimp only))))
  · (try dsimp only)
    rename Fr _ _ _ _ => F9
    rename News _ _ _ _ => N9
    rename IntsAre _ _ => hv9
    rename ((Lo : Int) + 1 = (Hi : Int)) => hone
    refine ret _ _ _ _ F9.keep (fun r hr => ⟨(N9 r hr).1, (N9 r hr).2.2⟩) ⟨rfl, _, _, _, hv9, by simp, fun i => ?_, rfl⟩
    have hH : Hi = Lo + 1 := by omega
    subst hH
    have hxx : dig n x 0 = x := dig_zero (by simpa using hxs)
    simp only [List.getD_eq_getElem?_getD, List.getElem?_set, Int.toNat_natCast]
    by_cases hi : Lo = i
    · subst hi
      rw [if_pos rfl, if_pos (by omega), if_pos (by omega), Nat.sub_self, hxx]; rfl
    · rw [if_neg hi, if_neg (by omega)]
  · rename Fr _ _ _ _ => F9
    rename News _ _ _ _ => N9
    rename (¬ ((Lo : Int) + 1 = (Hi : Int))) => hone
    obtain ⟨mid, hmid⟩ : ∃ mid, mid = (Lo + Hi) / 2 := ⟨_, rfl⟩
    rw [← hmid] at F9
    rw [← hmid]
    have hm1 : Lo < mid := by omega
    have hm2 : mid < Hi := by omega
    refine use_g (IH vals ns k (x % 2 ^ (n * (mid - Lo))) Lo mid _ _ _ hv hl hm1 (by omega) (by omega) (Nat.mod_lt _ (Nat.two_pow_pos _)) (Nat.lt_of_le_of_lt (Nat.mod_le _ _) hx)) (oth := []) B F9 X N9 T rfl rfl (fun p hp => hp) (fun p hp => nomatch hp) (fun p hp => nomatch hp) ?_ ?_ ?_
    · k_room
    · k_units
    rintro v2 sel2 h2 tk2 F2 N2 - - ⟨rfl, vals2, ns2, k2, hv2, hl2, hg2, rfl⟩
    simp only [innerIL, List.append_nil] at N2
    clear F9 N9
    (try dsimp only)
    ((repeat' ((fail_if_success (with_reducible show wpAny _ _ (call (Value.ref rd) _) _ _ _)); (first | (k_unfold; (try dsimp only)) | ((with_reducible first | show wpAny _ _ (exec _ _) _ _ _ | show wpAny _ _ (execs _ _) _ _ _); k_fold) | (k_end; wrow_close) | walk1 | (dsimp only; walk1) | (leave1; (try dsimp only))))) <;> (repeat (k_unfold; (try dsimp only))))
    rename Fr _ _ _ _ => F9
    rename News _ _ _ _ => N9
    refine use_g (IH vals2 ns2 k2 (x / 2 ^ (n * (mid - Lo))) mid Hi _ _ _ hv2 (by omega) hm2 (by omega) (by omega) ?_ (Nat.lt_of_le_of_lt (Nat.div_le_self _ _) hx)) (oth := []) B F9 X N9 T rfl rfl (fun p hp => hp) (fun p hp => nomatch hp) (fun p hp => nomatch hp) ?_ ?_ ?_
    · rw [Nat.div_lt_iff_lt_mul (Nat.two_pow_pos _), ← Nat.pow_add, ← Nat.mul_add]
      rw [show Hi - mid + (mid - Lo) = Hi - Lo from by omega]
      exact hxs
    · k_room
    · k_units
    rintro v3 sel3 h3 tk3 F3 N3 - - ⟨rfl, vals3, ns3, k3, hv3, hl3, hg3, rfl⟩
    simp only [innerIL, List.append_nil] at N3
    clear F9 N9
    (try dsimp only)
    ((repeat' (first | (k_unfold; (try dsimp only)) | ((with_reducible first | show wpAny _ _ (exec _ _) _ _ _ | show wpAny _ _ (execs _ _) _ _ _); k_fold) | (k_end; wrow_close) | walk1 | (dsimp only; walk1) | (leave1; (try dsimp only)))) <;> (repeat (k_unfold; (try dsimp only))))
    (try dsimp only)
    rename Fr _ _ _ _ => F9
    rename News _ _ _ _ => N9
    refine ret _ _ _ _ F9.keep (fun r hr => ⟨(N9 r hr).1, (N9 r hr).2.2⟩) ⟨rfl, _, _, _, hv3, by omega, fun i => ?_, rfl⟩
    rw [hg3, hg2]
    by_cases h1 : mid ≤ i ∧ i < Hi
    · rw [if_pos h1, if_pos (by omega)]
      have e := dig_high (n := n) (x := x) (i := i - Lo) (j := mid - Lo) (by omega)
      rw [show i - mid = i - Lo - (mid - Lo) from by omega, e]
    · rw [if_neg h1]
      by_cases h2 : Lo ≤ i ∧ i < mid
      · rw [if_pos h2, if_pos (by omega), dig_low (by omega)]
      · rw [if_neg h2, if_neg (by omega)]
/-- the number of digits f L, f (L + 1), .. to the base 2 ^ n -/
noncomputable def hv (n : Nat) (f : Nat → Nat) (L : Nat) : Nat → Nat
  | 0 => 0
  | k + 1 => f L + 2 ^ n * hv n f (L + 1) k
theorem hv_add (n : Nat) (f : Nat → Nat) (j k : Nat) : ∀ L, hv n f L (j + k) = hv n f L j + 2 ^ (n * j) * hv n f (L + j) k := by
  induction j with
  | zero => intro L; simp [hv]
  | succ j ih =>
    intro L
    rw [show j + 1 + k = (j + k) + 1 from by omega, hv, ih, hv, show L + 1 + j = L + (j + 1) from by omega, Nat.mul_add, Nat.add_assoc, ← Nat.mul_assoc, ← Nat.pow_add, show n * (j + 1) = n + n * j from by rw [Nat.mul_add]; omega]
theorem hv_lt (n : Nat) (f : Nat → Nat) (hf : ∀ i, f i < 2 ^ n) (k : Nat) : ∀ L, hv n f L k < 2 ^ (n * k) := by
  induction k with
  | zero => intro L; simp [hv]
  | succ k ih =>
    intro L
    rw [hv, Nat.mul_add, Nat.pow_add, Nat.mul_one, Nat.mul_comm (2 ^ (n * k))]
    have h1 := hf L
    have h2 : 2 ^ n * (hv n f (L + 1) k + 1) ≤ 2 ^ n * 2 ^ (n * k) := Nat.mul_le_mul_left _ (ih (L + 1))
    rw [Nat.mul_add] at h2
    omega
theorem hv_one (n : Nat) (f : Nat → Nat) (L : Nat) : hv n f L 1 = f L := by simp [hv]
theorem int_eq {a b : Int} {t : Tok} (h : a = b) : Value.int a t = Value.int b t := by rw [h]
noncomputable abbrev innerDL (rd c lst cA cI cN : Addr) (oc oA oI oN : Obj) (name qual : Str) (params : Arguments) (body : List Stmt) (scope : Scope) (doc pm ct : Value) (vals : List Value) (k : Nat) : List (Addr × Obj) :=
  [(rd, { cls := .type "function", data := .func (fnX name qual params body scope [("n", cN), ("inner", cI), ("digits", cA)] .none .none doc pm none (.ref c) ct) }), (c, oc), (lst, listOf vals.toArray k), (cA, oA), (cI, oI), (cN, oN)]
theorem innerD_c (w : World) (rd c lst cA cI cN : Addr) (oc oA oI oN : Obj) (name qual : Str) (params : Arguments) (body : List Stmt) (scope : Scope) (doc pm ct : Value) (vs : Array Value) (tq : Tok) (n : Nat) (un : Tok)
    (hdef : nestedDef ((hd.heap_1 w.params).lookup 49) 0 = some (params, body, scope)) (hcd : oc.data = .fields vs) (hvs : vs[1]? = some (.str qual tq)) (hA : oA.data = .cell (some (.ref lst))) (hI : oI.data = .cell (some (.ref rd))) (hN : oN.data = .cell (some (.int (n : Int) un)))
    (n1 : lst ≠ rd) (n2 : lst ≠ c) (n3 : lst ≠ cA) (n4 : lst ≠ cI) (n5 : lst ≠ cN) (hn : 0 < n) (hn2 : n < 5000)
    (vals : List Value) (ns : List Int) (k : Nat) (f : Nat → Nat) (hvn : IntsAre vals ns) (hl : ns.length ≤ 5000) (hf : ∀ i, f i < 2 ^ n) (hfn : ∀ i, ns.getD i 0 = (f i : Int)) (d : Nat) :
    ∀ (Lo Hi : Nat) (tL tR : Tok), Lo < Hi → Hi ≤ ns.length → Hi - Lo ≤ d →
    Con w (d + 2) (4 * d + 40) rd [.int Lo tL, .int Hi tR] (innerDL rd c lst cA cI cN oc oA oI oN name qual params body scope doc pm ct vals k)
      (fun _ v blk => (∃ t, v = .int (hv n f Lo (Hi - Lo) : Nat) t) ∧ blk = innerDL rd c lst cA cI cN oc oA oI oN name qual params body scope doc pm ct vals k) := by
  induction d with
  | zero => intro Lo Hi tL tR hLR hR hd0; exact absurd hd0 (by omega)
  | succ d IH =>
  intro Lo Hi tL tR hLR hR hd0
  have hlv := hvn.length
  revert hdef
  unfold Con
  k_fill
  intro hdef dp un' gd outer base g tp tl mean mg mb s R B hg hsz hsel X T hd hu ret
  have hdef0 := hdef
  refine' nested_out ?hl hdef ?_
  (case hl => k_is)
  clear hdef
  intro hdef
  cases hdef
  refine' enter_m hg hsz hsel T (.head _) rfl (.tail _ (.head _)) hcd hvs ?k8 ?k9 ?kB ?_ ?c2 ?c3 ?c4 ?c5
  (case k8 => k_room); (case k9 => exact BindsTo.of_eq rfl); (case c5 => decide); (case kB => exact locs rfl); (case c2 => exact rfl); (case c3 => exact rfl); (case c4 => exact rfl)
  intro L' h' tk' F' N' l1
  (try dsimp only); (try k_fold)
  have codeHd := codeHd_of_K (c := 48) (P := 44) X (by kernel_rfl)
  simp only [innerDL] at N'
  have hLm : Lo ≤ (Lo + Hi) / 2 := by omega
  ((repeat' ((fail_if_success (with_reducible show wpAny _ _ (call (Value.ref rd) _) _ _ _)); (first | ((with_reducible show wpAny _ _ (binaryOp Operator.RShift _ (Value.int 1 _)) _ _ _); refine half_nn ?_) | ((with_reducible show wpAny _ _ (binaryOp Operator.Mult _ _) _ _ _); refine mulsub_nn hLm hn2 ?_) | (k_unfold; (try dsimp only)) | ((with_reducible first | show wpAny _ _ (exec _ _) _ _ _ | show wpAny _ _ (execs _ _) _ _ _); k_fold) | (k_end; wrow_close) | walk1 | (dsimp only; walk1) | (leave1; (try dsimp only))))) <;> (repeat (k_unfold; (try dsimp only))))
  · (try dsimp only)
    rename Fr _ _ _ _ => F9
    rename News _ _ _ _ => N9
    rename ((Lo : Int) + 1 = (Hi : Int)) => hone
    have hH : Hi = Lo + 1 := by omega
    subst hH
    refine ret _ _ _ _ F9.keep (fun r hr => ⟨(N9 r hr).1, (N9 r hr).2.2⟩) ⟨⟨_, int_eq ?_⟩, rfl⟩
    rw [show Lo + 1 - Lo = 1 from by omega, hv_one, ← hfn, Int.toNat_natCast]
  · rename Fr _ _ _ _ => F9
    rename News _ _ _ _ => N9
    rename (¬ ((Lo : Int) + 1 = (Hi : Int))) => hone
    obtain ⟨mid, hmid⟩ : ∃ mid, mid = (Lo + Hi) / 2 := ⟨_, rfl⟩
    rw [← hmid] at F9
    rw [← hmid]
    have hm1 : Lo < mid := by omega
    have hm2 : mid < Hi := by omega
    refine use_g (IH mid Hi _ _ hm2 hR (by omega)) (oth := []) B F9 X N9 T rfl rfl (fun p hp => hp) (fun p hp => nomatch hp) (fun p hp => nomatch hp) ?_ ?_ ?_
    · k_room
    · k_units
    rintro v2 sel2 h2 tk2 F2 N2 - - ⟨⟨t2, rfl⟩, rfl⟩
    simp only [innerDL, List.append_nil] at N2
    clear F9 N9
    (try dsimp only)
    have hb1 := hv_lt n f hf (Hi - mid) mid
    have hsh : n * (Hi - mid) + n * (mid - Lo) ≤ 2 ^ 27 := by
      have h1 : n * (Hi - mid) ≤ 5000 * 5000 := Nat.mul_le_mul (by omega) (by omega)
      have h2 : n * (mid - Lo) ≤ 5000 * 5000 := Nat.mul_le_mul (by omega) (by omega)
      have e2 : (2 : Nat) ^ 27 = 134217728 := by decide
      omega
    ((repeat' ((fail_if_success (with_reducible show wpAny _ _ (call (Value.ref rd) _) _ _ _)); (first | ((with_reducible show wpAny _ _ (binaryOp Operator.LShift _ _) _ _ _); refine shl_nn hb1 hsh ?_) | (k_unfold; (try dsimp only)) | ((with_reducible first | show wpAny _ _ (exec _ _) _ _ _ | show wpAny _ _ (execs _ _) _ _ _); k_fold) | (k_end; wrow_close) | walk1 | (dsimp only; walk1) | (leave1; (try dsimp only))))) <;> (repeat (k_unfold; (try dsimp only))))
    rename Fr _ _ _ _ => F9
    rename News _ _ _ _ => N9
    refine use_g (IH Lo mid _ _ hm1 (by omega) (by omega)) (oth := []) B F9 X N9 T rfl rfl (fun p hp => hp) (fun p hp => nomatch hp) (fun p hp => nomatch hp) ?_ ?_ ?_
    · k_room
    · k_units
    rintro v3 sel3 h3 tk3 F3 N3 - - ⟨⟨t3, rfl⟩, rfl⟩
    simp only [innerDL, List.append_nil] at N3
    clear F9 N9
    (try dsimp only)
    ((repeat' (first | (k_unfold; (try dsimp only)) | ((with_reducible first | show wpAny _ _ (exec _ _) _ _ _ | show wpAny _ _ (execs _ _) _ _ _); k_fold) | (k_end; wrow_close) | walk1 | (dsimp only; walk1) | (leave1; (try dsimp only)))) <;> (repeat (k_unfold; (try dsimp only))))
    (try dsimp only)
    rename Fr _ _ _ _ => F9
    rename News _ _ _ _ => N9
    refine ret _ _ _ _ F9.keep (fun r hr => ⟨(N9 r hr).1, (N9 r hr).2.2⟩) ⟨⟨_, int_eq ?_⟩, rfl⟩
    have e := hv_add n f (mid - Lo) (Hi - mid) Lo
    rw [show mid - Lo + (Hi - mid) = Hi - Lo from by omega, show Lo + (mid - Lo) = mid from by omega] at e
    rw [e]
    rw [Int.natCast_add, Nat.mul_comm, Int.add_comm]
/-- the table of code objects of a def with one inner def: empty, or the inner def's code -/
noncomputable def TabSt (P : Addr) (line col : Nat) (qual : Str) (tb : List (Addr × Obj)) : Prop :=
  tb = [(P, tabObj #[])] ∨ ∃ (c : Addr) (oc : Obj) (vs : Array Value) (t : Tok), tb = [(P, tabObj #[rawInt line, rawInt col, .ref c]), (c, oc)] ∧ oc.data = .fields vs ∧ vs[1]? = some (.str qual t) ∧ c ≠ P
theorem fdivlen {prog : Program} {w : World} {A : Around} {E : Value → Shared → Prop} {s : Shared} {t u : Tok} {Q : Value → Shared → Prop} {b n len : Nat} (hn : 0 < n) (hn2 : n < 5000) (hlen : len = (b + n - 1) / n)
    (h : Q (.int (len : Int) s.toks) { s with toks := s.toks + 1 }) : wpAny (model prog w) A (binaryOp .FloorDiv (.int ((b : Int) + (n : Int) - 1) t) (.int (n : Int) u)) Q E s := by
  refine floordiv_int (by omega) ?_ (.inl (PyProof.noPylong_small (by omega)))
  have e : Int.fdiv ((b : Int) + (n : Int) - 1) (n : Int) = (len : Int) := by
    rw [hlen, ← fdiv_nn]; congr 1; omega
  rw [e]; exact h
/-- the digits of a to the base 2 ^ n, the lowest first -/
noncomputable def digsOf (n len a : Nat) : List Int := (List.range len).map fun i => ((dig n a i : Nat) : Int)
/-- a new list of digits, and the def's table -/
noncomputable def DigsAt (P line col : Nat) (qual : Str) (v : Value) (ns : List Int) (blk : List (Addr × Obj)) : Prop :=
  ∃ D vals k tb, v = .ref D ∧ blk = (D, listOf vals.toArray k) :: tb ∧ IntsAre vals ns ∧ TabSt P line col qual tb ∧ (∀ p ∈ tb, p.1 ≠ D)
theorem digs_eq {n len a : Nat} {ns : List Int} (h1 : ns.length = len) (h2 : ∀ i, ns.getD i 0 = if 0 ≤ i ∧ i < len then ((dig n a (i - 0) : Nat) : Int) else (List.replicate len (0 : Int)).getD i 0) : ns = digsOf n len a := by
  apply List.ext_getElem
  · simp [digsOf, h1]
  · intro i hi hi2
    have := h2 i
    rw [if_pos ⟨Nat.zero_le _, by omega⟩, List.getD_eq_getElem?_getD, List.getElem?_eq_getElem hi] at this
    simpa [digsOf] using this
theorem rep_flat {α : Type} (x : α) (q : Nat) : (List.replicate q [x]).flatten = List.replicate q x := by
  induction q with
  | zero => rfl
  | succ q ih => rw [List.replicate_succ, List.replicate_succ, List.flatten_cons, ih]; rfl
section
variable {dp un : Nat} {gd : Option (List Code)} {env : Env} {outer : List Env} {A₀ : Around} {base h₀ : Heap} {L : Addr} {m : Str → Option Value} {tp : Program} {tl : List Str} {mean : ExcName → Option Value} {mg mb : Str → Option Value} {s : Shared} {w : World}
theorem i2d_call {Q E : Value → Shared → Prop} {news : List (Addr × Obj)} {rd c lst cA cI cN : Addr} {oc oA oI oN : Obj} {name qual : Str} {params : Arguments} {body : List Stmt} {scope : Scope} {doc pm ct : Value} {vs tab : Array Value} {tq : Tok} {n a len : Nat} {un' t1 t2 t3 : Tok} {vals : List Value} {ns : List Int} {k : Nat}
    (B : Below A₀ base outer h₀) (F : Fr h₀ L s.heap m) (X : (hd.heap_1 w.params).In h₀) (N : News h₀ L s.heap news) (T : Top tp tl mean mg mb h₀) (hf : env.frame = some L) (hke : env.scope.kind = .function)
    (m1 : (rd, { cls := .type "function", data := .func (fnX name qual params body scope [("n", cN), ("inner", cI), ("a_digits", cA)] .none .none doc pm none (.ref c) ct) }) ∈ news) (m2 : (c, oc) ∈ news) (m3 : (lst, listOf vals.toArray k) ∈ news) (m4 : (cA, oA) ∈ news) (m5 : (cI, oI) ∈ news) (m6 : (cN, oN) ∈ news)
    (m7 : (37, tabObj tab) ∈ news)
    (hdef : nestedDef ((hd.heap_1 w.params).lookup 42) 1 = some (params, body, scope)) (hcd : oc.data = .fields vs) (hvs : vs[1]? = some (.str qual tq)) (hA : oA.data = .cell (some (.ref lst))) (hI : oI.data = .cell (some (.ref rd))) (hN : oN.data = .cell (some (.int (n : Int) un')))
    (n1 : lst ≠ rd) (n2 : lst ≠ c) (n3 : lst ≠ cA) (n4 : lst ≠ cI) (n5 : lst ≠ cN) (q1 : rd ≠ 37) (q2 : c ≠ 37) (q3 : lst ≠ 37) (q4 : cA ≠ 37) (q5 : cI ≠ 37) (q6 : cN ≠ 37)
    (hn : 0 < n) (hn2 : n < 5000) (ha : a < 2 ^ 4000) (hal : a < 2 ^ (n * len)) (hi : IntsAre vals ns) (hz : ns = List.replicate len 0) (hl0 : 0 < len) (hl60 : len ≤ 60)
    (hd : dp + 65 < recursionLimit) (hu : un + 300 < cLine)
    (ret : ∀ vals' k' h' tk', IntsAre vals' (digsOf n len a) → Fr h₀ L h' m → News h₀ L h' (innerIL rd c lst cA cI cN oc oA oI oN name qual params body scope doc pm ct vals' k' ++ [(37, tabObj tab)]) → Q .none { s with heap := h', toks := tk' }) :
    wpAny (model Challenge.rw_pe0259_01.row.prog w) (Ar dp un gd (env :: outer)) (call (.ref rd) [.int (a : Int) t1, .int 0 t2, .int (len : Int) t3]) Q E s := by
  have hnl : ns.length = len := by rw [hz, List.length_replicate]
  refine use_g (innerI_c w rd c lst cA cI cN oc oA oI oN name qual params body scope doc pm ct vs tq n un' hdef hcd hvs hA hI hN n1 n2 n3 n4 n5 hn hn2 len vals ns k a 0 len t1 t2 t3 hi (by omega) hl0 (by omega) (by omega) hal
    (Nat.lt_of_lt_of_le ha (Nat.pow_le_pow_right (by omega) (by omega)))) (oth := [(37, tabObj tab)]) B F X N T hf hke ?_ ?_ ?_ (by omega) (by omega) ?_
  · exact List.forall_mem_cons.mpr ⟨m1, List.forall_mem_cons.mpr ⟨m2, List.forall_mem_cons.mpr ⟨m3, List.forall_mem_cons.mpr ⟨m4, List.forall_mem_cons.mpr ⟨m5, List.forall_mem_cons.mpr ⟨m6, List.forall_mem_nil _⟩⟩⟩⟩⟩⟩
  · exact List.forall_mem_cons.mpr ⟨m7, List.forall_mem_nil _⟩
  · exact List.forall_mem_cons.mpr ⟨List.forall_mem_cons.mpr ⟨q1.symm, List.forall_mem_cons.mpr ⟨q2.symm, List.forall_mem_cons.mpr ⟨q3.symm, List.forall_mem_cons.mpr ⟨q4.symm, List.forall_mem_cons.mpr ⟨q5.symm, List.forall_mem_cons.mpr ⟨q6.symm, List.forall_mem_nil _⟩⟩⟩⟩⟩⟩, List.forall_mem_nil _⟩
  rintro v sel' h' tk' F' N' - - ⟨rfl, vals', ns', k', hi', hl', hg', rfl⟩
  have e := digs_eq (ns := ns') (n := n) (a := a) (len := len) (by omega) (by rw [hz] at hg'; exact hg')
  exact ret vals' k' h' tk' (e ▸ hi') F' N'
end
theorem i2d_post {g h : Heap} {L : Addr} {news : List (Addr × Obj)} {P line col : Nat} {qual : Str} {D c : Addr} {vals : List Value} {k : Nat} {ns : List Int} {oc : Obj} {vs tab : Array Value} {t : Tok} (N : News g L h news)
    (m1 : (D, listOf vals.toArray k) ∈ news) (m2 : (P, tabObj tab) ∈ news) (htab : tab = #[rawInt line, rawInt col, .ref c]) (m3 : (c, oc) ∈ news) (hi : IntsAre vals ns) (hcd : oc.data = .fields vs) (hvs : vs[1]? = some (.str qual t)) (q1 : c ≠ P) (q2 : D ≠ P) (q3 : D ≠ c) :
    ∃ sel', (∀ p ∈ sel', h.get? p.1 = some p.2 ∧ g.get? p.1 = none) ∧ DigsAt P line col qual (.ref D) ns sel' := by
  subst htab
  refine ⟨_, ?_, D, vals, k, _, rfl, rfl, hi, .inr ⟨c, oc, vs, t, rfl, hcd, hvs, q1⟩, ?_⟩
  · have hm : ∀ p ∈ _, p ∈ news := List.forall_mem_cons.mpr ⟨m1, List.forall_mem_cons.mpr ⟨m2, List.forall_mem_cons.mpr ⟨m3, List.forall_mem_nil _⟩⟩⟩
    exact fun p hp => ⟨(N p (hm p hp)).1, (N p (hm p hp)).2.2⟩
  · exact List.forall_mem_cons.mpr ⟨q2.symm, List.forall_mem_cons.mpr ⟨q3.symm, List.forall_mem_nil _⟩⟩
theorem len_le {a n len : Nat} (hn : 0 < n) (hlen : len = (Builtin.Int.intBits (a : Int) + n - 1) / n) : a < 2 ^ (n * len) ∧ (a ≠ 0 → 0 < len) ∧ (a = 0 → len = 0) := by
  have h1 := lt_bits a
  refine ⟨Nat.lt_of_lt_of_le h1 (Nat.pow_le_pow_right (by omega) ?_), fun h => ?_, fun h => ?_⟩
  · have := Nat.lt_mul_div_succ (Builtin.Int.intBits (a : Int) + n - 1) hn
    rw [hlen, Nat.mul_comm]
    rw [Nat.mul_comm, Nat.add_mul, Nat.one_mul] at this
    omega
  · rw [hlen]
    apply Nat.div_pos _ hn
    have : Builtin.Int.intBits (a : Int) ≠ 0 := fun e => by rw [e] at h1; omega
    omega
  · subst h
    rw [hlen]
    show ((0 : Nat) + n - 1) / n = 0
    exact Nat.div_eq_of_lt (by omega)
theorem nat_of {x y : Nat} (h : (x : Int) = ((0 + 1 : Nat) : Int) * (y : Int)) : y = x := by omega
theorem int2digits_c (w : World) (a n len : Nat) (ta tn : Tok) (tb : List (Addr × Obj)) (TS : TabSt 37 35 4 "_int2digits.<locals>.inner" tb) (hn : 0 < n) (hn2 : n < 5000) (ha : a < 2 ^ 4000) (hlen : len = (Builtin.Int.intBits (a : Int) + n - 1) / n) (hl60 : len ≤ 60) :
    Con w 70 400 42 [.int a ta, .int n tn] tb (fun _ v blk => DigsAt 37 35 4 "_int2digits.<locals>.inner" v (digsOf n len a) blk) := by
  obtain ⟨b1, b2, b3⟩ := len_le hn hlen
  rcases TS with rfl | ⟨c0, oc0, vs0, t0, rfl, hcd0, hvs0, hcP⟩
  all_goals
    unfold Con
    k_fill
    intro dp un gd outer base g tp tl mean mg mb s R B hg hsz hsel X T hd hu ret
    refine' enter_gc hg hsz hsel X T ?k6 ?k7 ?k8 ?k9 ?kB ?kD ?_ ?c2 ?c3 ?c4
    (case k6 => k_is); (case k7 => k_is); (case k8 => ktr_room); (case k9 => exact BindsTo.of_eq rfl); (case kB => exact rfl); (case kD => decide +kernel); (case c2 => exact rfl); (case c3 => exact rfl); (case c4 => exact rfl)
    k_whole
    intro L' h' tk' cells' F' N' Y' l1
    (try k_lt l1); k_cells Y'; (try simp only [List.cons_append, List.nil_append] at N')
    have codeHd := codeHd_of_K (c := 41) (P := 37) X (by kernel_rfl)
    (try dsimp only); (try k_fold)
    ((repeat' ((fail_if_success (with_reducible show wpAny _ _ (call (Value.ref _) _) _ _ _)); (first | ((with_reducible show wpAny _ _ (binaryOp Operator.FloorDiv _ _) _ _ _); refine fdivlen hn hn2 hlen ?_) | (k_unfold; (try dsimp only)) | ((with_reducible first | show wpAny _ _ (exec _ _) _ _ _ | show wpAny _ _ (execs _ _) _ _ _); k_fold) | (k_end; wrow_close) | walk1 | (dsimp only; walk1) | (leave1; (try dsimp only))))) <;> (repeat (k_unfold; (try dsimp only))))
    · rename Fr _ _ _ _ => F9
      rename News _ _ _ _ => N9
      rename IntsAre _ _ => hi9
      rename ((a : Int) ≠ 0) => hane
      rename (0 ≤ (len : Int) → _) => e9
      have hn9 := nat_of (e9 (Int.natCast_nonneg _))
      subst hn9
      rw [Int.toNat_natCast] at hi9 N9
      refine i2d_call B F9 X N9 T rfl rfl (by k_mem) (by k_mem) (by k_mem) (by k_mem) (by k_mem) (by k_mem) (by k_mem) (by exact rfl) (by assumption) (by assumption) (by assumption) (by assumption) (by assumption)
        (by first | assumption | (refine Ne.symm ?_; assumption) | (refine neN ?_; (try dsimp only); first | (refine Nat.ne_of_gt ?_; with_reducible ((repeat (first | assumption | exact And.left (by assumption) | exact And.left (And.right (by assumption)) | exact And.right (And.right (by assumption)) | exact And.right (by assumption) | exact And.left (And.right (And.right (by assumption))) | exact And.right (And.right (And.right (by assumption))) | exact And.left (And.right (And.right (And.right (by assumption)))) | exact And.left (And.right (And.right (And.right (And.right (by assumption))))) | refine Nat.lt_trans ?_ (by assumption))); done)) | (refine Nat.ne_of_lt ?_; with_reducible ((repeat (first | assumption | exact And.left (by assumption) | exact And.left (And.right (by assumption)) | exact And.right (And.right (by assumption)) | exact And.right (by assumption) | exact And.left (And.right (And.right (by assumption))) | exact And.right (And.right (And.right (by assumption))) | exact And.left (And.right (And.right (And.right (by assumption)))) | exact And.left (And.right (And.right (And.right (And.right (by assumption))))) | refine Nat.lt_trans ?_ (by assumption))); done)) | omega)) (by first | assumption | (refine Ne.symm ?_; assumption) | (refine neN ?_; (try dsimp only); first | (refine Nat.ne_of_gt ?_; with_reducible ((repeat (first | assumption | exact And.left (by assumption) | exact And.left (And.right (by assumption)) | exact And.right (And.right (by assumption)) | exact And.right (by assumption) | exact And.left (And.right (And.right (by assumption))) | exact And.right (And.right (And.right (by assumption))) | exact And.left (And.right (And.right (And.right (by assumption)))) | exact And.left (And.right (And.right (And.right (And.right (by assumption))))) | refine Nat.lt_trans ?_ (by assumption))); done)) | (refine Nat.ne_of_lt ?_; with_reducible ((repeat (first | assumption | exact And.left (by assumption) | exact And.left (And.right (by assumption)) | exact And.right (And.right (by assumption)) | exact And.right (by assumption) | exact And.left (And.right (And.right (by assumption))) | exact And.right (And.right (And.right (by assumption))) | exact And.left (And.right (And.right (And.right (by assumption)))) | exact And.left (And.right (And.right (And.right (And.right (by assumption))))) | refine Nat.lt_trans ?_ (by assumption))); done)) | omega)) (by first | assumption | (refine Ne.symm ?_; assumption) | (refine neN ?_; (try dsimp only); first | (refine Nat.ne_of_gt ?_; with_reducible ((repeat (first | assumption | exact And.left (by assumption) | exact And.left (And.right (by assumption)) | exact And.right (And.right (by assumption)) | exact And.right (by assumption) | exact And.left (And.right (And.right (by assumption))) | exact And.right (And.right (And.right (by assumption))) | exact And.left (And.right (And.right (And.right (by assumption)))) | exact And.left (And.right (And.right (And.right (And.right (by assumption))))) | refine Nat.lt_trans ?_ (by assumption))); done)) | (refine Nat.ne_of_lt ?_; with_reducible ((repeat (first | assumption | exact And.left (by assumption) | exact And.left (And.right (by assumption)) | exact And.right (And.right (by assumption)) | exact And.right (by assumption) | exact And.left (And.right (And.right (by assumption))) | exact And.right (And.right (And.right (by assumption))) | exact And.left (And.right (And.right (And.right (by assumption)))) | exact And.left (And.right (And.right (And.right (And.right (by assumption))))) | refine Nat.lt_trans ?_ (by assumption))); done)) | omega)) (by first | assumption | (refine Ne.symm ?_; assumption) | (refine neN ?_; (try dsimp only); first | (refine Nat.ne_of_gt ?_; with_reducible ((repeat (first | assumption | exact And.left (by assumption) | exact And.left (And.right (by assumption)) | exact And.right (And.right (by assumption)) | exact And.right (by assumption) | exact And.left (And.right (And.right (by assumption))) | exact And.right (And.right (And.right (by assumption))) | exact And.left (And.right (And.right (And.right (by assumption)))) | exact And.left (And.right (And.right (And.right (And.right (by assumption))))) | refine Nat.lt_trans ?_ (by assumption))); done)) | (refine Nat.ne_of_lt ?_; with_reducible ((repeat (first | assumption | exact And.left (by assumption) | exact And.left (And.right (by assumption)) | exact And.right (And.right (by assumption)) | exact And.right (by assumption) | exact And.left (And.right (And.right (by assumption))) | exact And.right (And.right (And.right (by assumption))) | exact And.left (And.right (And.right (And.right (by assumption)))) | exact And.left (And.right (And.right (And.right (And.right (by assumption))))) | refine Nat.lt_trans ?_ (by assumption))); done)) | omega)) (by first | assumption | (refine Ne.symm ?_; assumption) | (refine neN ?_; (try dsimp only); first | (refine Nat.ne_of_gt ?_; with_reducible ((repeat (first | assumption | exact And.left (by assumption) | exact And.left (And.right (by assumption)) | exact And.right (And.right (by assumption)) | exact And.right (by assumption) | exact And.left (And.right (And.right (by assumption))) | exact And.right (And.right (And.right (by assumption))) | exact And.left (And.right (And.right (And.right (by assumption)))) | exact And.left (And.right (And.right (And.right (And.right (by assumption))))) | refine Nat.lt_trans ?_ (by assumption))); done)) | (refine Nat.ne_of_lt ?_; with_reducible ((repeat (first | assumption | exact And.left (by assumption) | exact And.left (And.right (by assumption)) | exact And.right (And.right (by assumption)) | exact And.right (by assumption) | exact And.left (And.right (And.right (by assumption))) | exact And.right (And.right (And.right (by assumption))) | exact And.left (And.right (And.right (And.right (by assumption)))) | exact And.left (And.right (And.right (And.right (And.right (by assumption))))) | refine Nat.lt_trans ?_ (by assumption))); done)) | omega)) (by first | assumption | (refine Ne.symm ?_; assumption) | (refine neN ?_; (try dsimp only); first | (refine Nat.ne_of_gt ?_; with_reducible ((repeat (first | assumption | exact And.left (by assumption) | exact And.left (And.right (by assumption)) | exact And.right (And.right (by assumption)) | exact And.right (by assumption) | exact And.left (And.right (And.right (by assumption))) | exact And.right (And.right (And.right (by assumption))) | exact And.left (And.right (And.right (And.right (by assumption)))) | exact And.left (And.right (And.right (And.right (And.right (by assumption))))) | refine Nat.lt_trans ?_ (by assumption))); done)) | (refine Nat.ne_of_lt ?_; with_reducible ((repeat (first | assumption | exact And.left (by assumption) | exact And.left (And.right (by assumption)) | exact And.right (And.right (by assumption)) | exact And.right (by assumption) | exact And.left (And.right (And.right (by assumption))) | exact And.right (And.right (And.right (by assumption))) | exact And.left (And.right (And.right (And.right (by assumption)))) | exact And.left (And.right (And.right (And.right (And.right (by assumption))))) | refine Nat.lt_trans ?_ (by assumption))); done)) | omega)) (by first | assumption | (refine Ne.symm ?_; assumption) | (refine neN ?_; (try dsimp only); first | (refine Nat.ne_of_gt ?_; with_reducible ((repeat (first | assumption | exact And.left (by assumption) | exact And.left (And.right (by assumption)) | exact And.right (And.right (by assumption)) | exact And.right (by assumption) | exact And.left (And.right (And.right (by assumption))) | exact And.right (And.right (And.right (by assumption))) | exact And.left (And.right (And.right (And.right (by assumption)))) | exact And.left (And.right (And.right (And.right (And.right (by assumption))))) | refine Nat.lt_trans ?_ (by assumption))); done)) | (refine Nat.ne_of_lt ?_; with_reducible ((repeat (first | assumption | exact And.left (by assumption) | exact And.left (And.right (by assumption)) | exact And.right (And.right (by assumption)) | exact And.right (by assumption) | exact And.left (And.right (And.right (by assumption))) | exact And.right (And.right (And.right (by assumption))) | exact And.left (And.right (And.right (And.right (by assumption)))) | exact And.left (And.right (And.right (And.right (And.right (by assumption))))) | refine Nat.lt_trans ?_ (by assumption))); done)) | omega)) (by first | assumption | (refine Ne.symm ?_; assumption) | (refine neN ?_; (try dsimp only); first | (refine Nat.ne_of_gt ?_; with_reducible ((repeat (first | assumption | exact And.left (by assumption) | exact And.left (And.right (by assumption)) | exact And.right (And.right (by assumption)) | exact And.right (by assumption) | exact And.left (And.right (And.right (by assumption))) | exact And.right (And.right (And.right (by assumption))) | exact And.left (And.right (And.right (And.right (by assumption)))) | exact And.left (And.right (And.right (And.right (And.right (by assumption))))) | refine Nat.lt_trans ?_ (by assumption))); done)) | (refine Nat.ne_of_lt ?_; with_reducible ((repeat (first | assumption | exact And.left (by assumption) | exact And.left (And.right (by assumption)) | exact And.right (And.right (by assumption)) | exact And.right (by assumption) | exact And.left (And.right (And.right (by assumption))) | exact And.right (And.right (And.right (by assumption))) | exact And.left (And.right (And.right (And.right (by assumption)))) | exact And.left (And.right (And.right (And.right (And.right (by assumption))))) | refine Nat.lt_trans ?_ (by assumption))); done)) | omega)) (by first | assumption | (refine Ne.symm ?_; assumption) | (refine neN ?_; (try dsimp only); first | (refine Nat.ne_of_gt ?_; with_reducible ((repeat (first | assumption | exact And.left (by assumption) | exact And.left (And.right (by assumption)) | exact And.right (And.right (by assumption)) | exact And.right (by assumption) | exact And.left (And.right (And.right (by assumption))) | exact And.right (And.right (And.right (by assumption))) | exact And.left (And.right (And.right (And.right (by assumption)))) | exact And.left (And.right (And.right (And.right (And.right (by assumption))))) | refine Nat.lt_trans ?_ (by assumption))); done)) | (refine Nat.ne_of_lt ?_; with_reducible ((repeat (first | assumption | exact And.left (by assumption) | exact And.left (And.right (by assumption)) | exact And.right (And.right (by assumption)) | exact And.right (by assumption) | exact And.left (And.right (And.right (by assumption))) | exact And.right (And.right (And.right (by assumption))) | exact And.left (And.right (And.right (And.right (by assumption)))) | exact And.left (And.right (And.right (And.right (And.right (by assumption))))) | refine Nat.lt_trans ?_ (by assumption))); done)) | omega)) (by first | assumption | (refine Ne.symm ?_; assumption) | (refine neN ?_; (try dsimp only); first | (refine Nat.ne_of_gt ?_; with_reducible ((repeat (first | assumption | exact And.left (by assumption) | exact And.left (And.right (by assumption)) | exact And.right (And.right (by assumption)) | exact And.right (by assumption) | exact And.left (And.right (And.right (by assumption))) | exact And.right (And.right (And.right (by assumption))) | exact And.left (And.right (And.right (And.right (by assumption)))) | exact And.left (And.right (And.right (And.right (And.right (by assumption))))) | refine Nat.lt_trans ?_ (by assumption))); done)) | (refine Nat.ne_of_lt ?_; with_reducible ((repeat (first | assumption | exact And.left (by assumption) | exact And.left (And.right (by assumption)) | exact And.right (And.right (by assumption)) | exact And.right (by assumption) | exact And.left (And.right (And.right (by assumption))) | exact And.right (And.right (And.right (by assumption))) | exact And.left (And.right (And.right (And.right (by assumption)))) | exact And.left (And.right (And.right (And.right (And.right (by assumption))))) | refine Nat.lt_trans ?_ (by assumption))); done)) | omega)) (by first | assumption | (refine Ne.symm ?_; assumption) | (refine neN ?_; (try dsimp only); first | (refine Nat.ne_of_gt ?_; with_reducible ((repeat (first | assumption | exact And.left (by assumption) | exact And.left (And.right (by assumption)) | exact And.right (And.right (by assumption)) | exact And.right (by assumption) | exact And.left (And.right (And.right (by assumption))) | exact And.right (And.right (And.right (by assumption))) | exact And.left (And.right (And.right (And.right (by assumption)))) | exact And.left (And.right (And.right (And.right (And.right (by assumption))))) | refine Nat.lt_trans ?_ (by assumption))); done)) | (refine Nat.ne_of_lt ?_; with_reducible ((repeat (first | assumption | exact And.left (by assumption) | exact And.left (And.right (by assumption)) | exact And.right (And.right (by assumption)) | exact And.right (by assumption) | exact And.left (And.right (And.right (by assumption))) | exact And.right (And.right (And.right (by assumption))) | exact And.left (And.right (And.right (And.right (by assumption)))) | exact And.left (And.right (And.right (And.right (And.right (by assumption))))) | refine Nat.lt_trans ?_ (by assumption))); done)) | omega)) hn hn2 ha b1 hi9 (rep_flat _ _) (b2 (by omega)) hl60 (by k_room) (by k_units) ?_
      intro vals2 k2 h2 tk2 hi2 F2 N2
      simp only [innerIL, List.cons_append, List.nil_append] at N2
      clear F9 N9
      (try dsimp only)
      ((repeat' (first | (k_unfold; (try dsimp only)) | ((with_reducible first | show wpAny _ _ (exec _ _) _ _ _ | show wpAny _ _ (execs _ _) _ _ _); k_fold) | (k_end; wrow_close) | walk1 | (dsimp only; walk1) | (leave1; (try dsimp only)))) <;> (repeat (k_unfold; (try dsimp only))))
      (try dsimp only)
      rename Fr _ _ _ _ => F9
      rename News _ _ _ _ => N9
      refine (i2d_post N9 (by k_mem) (by k_mem) (by exact rfl) (by k_mem) hi2 (by assumption) (by assumption) (by first | assumption | (refine Ne.symm ?_; assumption) | (refine neN ?_; (try dsimp only); first | (refine Nat.ne_of_gt ?_; with_reducible ((repeat (first | assumption | exact And.left (by assumption) | exact And.left (And.right (by assumption)) | exact And.right (And.right (by assumption)) | exact And.right (by assumption) | exact And.left (And.right (And.right (by assumption))) | exact And.right (And.right (And.right (by assumption))) | exact And.left (And.right (And.right (And.right (by assumption)))) | exact And.left (And.right (And.right (And.right (And.right (by assumption))))) | refine Nat.lt_trans ?_ (by assumption))); done)) | (refine Nat.ne_of_lt ?_; with_reducible ((repeat (first | assumption | exact And.left (by assumption) | exact And.left (And.right (by assumption)) | exact And.right (And.right (by assumption)) | exact And.right (by assumption) | exact And.left (And.right (And.right (by assumption))) | exact And.right (And.right (And.right (by assumption))) | exact And.left (And.right (And.right (And.right (by assumption)))) | exact And.left (And.right (And.right (And.right (And.right (by assumption))))) | refine Nat.lt_trans ?_ (by assumption))); done)) | omega)) (by first | assumption | (refine Ne.symm ?_; assumption) | (refine neN ?_; (try dsimp only); first | (refine Nat.ne_of_gt ?_; with_reducible ((repeat (first | assumption | exact And.left (by assumption) | exact And.left (And.right (by assumption)) | exact And.right (And.right (by assumption)) | exact And.right (by assumption) | exact And.left (And.right (And.right (by assumption))) | exact And.right (And.right (And.right (by assumption))) | exact And.left (And.right (And.right (And.right (by assumption)))) | exact And.left (And.right (And.right (And.right (And.right (by assumption))))) | refine Nat.lt_trans ?_ (by assumption))); done)) | (refine Nat.ne_of_lt ?_; with_reducible ((repeat (first | assumption | exact And.left (by assumption) | exact And.left (And.right (by assumption)) | exact And.right (And.right (by assumption)) | exact And.right (by assumption) | exact And.left (And.right (And.right (by assumption))) | exact And.right (And.right (And.right (by assumption))) | exact And.left (And.right (And.right (And.right (by assumption)))) | exact And.left (And.right (And.right (And.right (And.right (by assumption))))) | refine Nat.lt_trans ?_ (by assumption))); done)) | omega)) (by first | assumption | (refine Ne.symm ?_; assumption) | (refine neN ?_; (try dsimp only); first | (refine Nat.ne_of_gt ?_; with_reducible ((repeat (first | assumption | exact And.left (by assumption) | exact And.left (And.right (by assumption)) | exact And.right (And.right (by assumption)) | exact And.right (by assumption) | exact And.left (And.right (And.right (by assumption))) | exact And.right (And.right (And.right (by assumption))) | exact And.left (And.right (And.right (And.right (by assumption)))) | exact And.left (And.right (And.right (And.right (And.right (by assumption))))) | refine Nat.lt_trans ?_ (by assumption))); done)) | (refine Nat.ne_of_lt ?_; with_reducible ((repeat (first | assumption | exact And.left (by assumption) | exact And.left (And.right (by assumption)) | exact And.right (And.right (by assumption)) | exact And.right (by assumption) | exact And.left (And.right (And.right (by assumption))) | exact And.right (And.right (And.right (by assumption))) | exact And.left (And.right (And.right (And.right (by assumption)))) | exact And.left (And.right (And.right (And.right (And.right (by assumption))))) | refine Nat.lt_trans ?_ (by assumption))); done)) | omega))).elim (fun sel9 H9 => ret _ sel9 _ _ F9.keep H9.1 H9.2)
    · rename Fr _ _ _ _ => F9
      rename News _ _ _ _ => N9
      rename IntsAre _ _ => hi9
      rename ((a : Int) = 0) => hane
      have hl0 := b3 (by omega)
      (try dsimp only)
      have hdz : digsOf n len a = (List.replicate (Int.toNat (len : Int)) [(0 : Int)]).flatten := by rw [hl0]; rfl
      rw [← hdz] at hi9
      refine (i2d_post N9 (by k_mem) (by k_mem) (by exact rfl) (by k_mem) hi9 (by assumption) (by assumption) (by first | assumption | (refine Ne.symm ?_; assumption) | (refine neN ?_; (try dsimp only); first | (refine Nat.ne_of_gt ?_; with_reducible ((repeat (first | assumption | exact And.left (by assumption) | exact And.left (And.right (by assumption)) | exact And.right (And.right (by assumption)) | exact And.right (by assumption) | exact And.left (And.right (And.right (by assumption))) | exact And.right (And.right (And.right (by assumption))) | exact And.left (And.right (And.right (And.right (by assumption)))) | exact And.left (And.right (And.right (And.right (And.right (by assumption))))) | refine Nat.lt_trans ?_ (by assumption))); done)) | (refine Nat.ne_of_lt ?_; with_reducible ((repeat (first | assumption | exact And.left (by assumption) | exact And.left (And.right (by assumption)) | exact And.right (And.right (by assumption)) | exact And.right (by assumption) | exact And.left (And.right (And.right (by assumption))) | exact And.right (And.right (And.right (by assumption))) | exact And.left (And.right (And.right (And.right (by assumption)))) | exact And.left (And.right (And.right (And.right (And.right (by assumption))))) | refine Nat.lt_trans ?_ (by assumption))); done)) | omega)) (by first | assumption | (refine Ne.symm ?_; assumption) | (refine neN ?_; (try dsimp only); first | (refine Nat.ne_of_gt ?_; with_reducible ((repeat (first | assumption | exact And.left (by assumption) | exact And.left (And.right (by assumption)) | exact And.right (And.right (by assumption)) | exact And.right (by assumption) | exact And.left (And.right (And.right (by assumption))) | exact And.right (And.right (And.right (by assumption))) | exact And.left (And.right (And.right (And.right (by assumption)))) | exact And.left (And.right (And.right (And.right (And.right (by assumption))))) | refine Nat.lt_trans ?_ (by assumption))); done)) | (refine Nat.ne_of_lt ?_; with_reducible ((repeat (first | assumption | exact And.left (by assumption) | exact And.left (And.right (by assumption)) | exact And.right (And.right (by assumption)) | exact And.right (by assumption) | exact And.left (And.right (And.right (by assumption))) | exact And.right (And.right (And.right (by assumption))) | exact And.left (And.right (And.right (And.right (by assumption)))) | exact And.left (And.right (And.right (And.right (And.right (by assumption))))) | refine Nat.lt_trans ?_ (by assumption))); done)) | omega)) (by first | assumption | (refine Ne.symm ?_; assumption) | (refine neN ?_; (try dsimp only); first | (refine Nat.ne_of_gt ?_; with_reducible ((repeat (first | assumption | exact And.left (by assumption) | exact And.left (And.right (by assumption)) | exact And.right (And.right (by assumption)) | exact And.right (by assumption) | exact And.left (And.right (And.right (by assumption))) | exact And.right (And.right (And.right (by assumption))) | exact And.left (And.right (And.right (And.right (by assumption)))) | exact And.left (And.right (And.right (And.right (And.right (by assumption))))) | refine Nat.lt_trans ?_ (by assumption))); done)) | (refine Nat.ne_of_lt ?_; with_reducible ((repeat (first | assumption | exact And.left (by assumption) | exact And.left (And.right (by assumption)) | exact And.right (And.right (by assumption)) | exact And.right (by assumption) | exact And.left (And.right (And.right (by assumption))) | exact And.right (And.right (And.right (by assumption))) | exact And.left (And.right (And.right (And.right (by assumption)))) | exact And.left (And.right (And.right (And.right (And.right (by assumption))))) | refine Nat.lt_trans ?_ (by assumption))); done)) | omega))).elim (fun sel9 H9 => ret _ sel9 _ _ F9.keep H9.1 H9.2)
section
variable {dp un : Nat} {gd : Option (List Code)} {env : Env} {outer : List Env} {A₀ : Around} {base h₀ : Heap} {L : Addr} {m : Str → Option Value} {tp : Program} {tl : List Str} {mean : ExcName → Option Value} {mg mb : Str → Option Value} {s : Shared} {w : World}
theorem d2i_call {Q E : Value → Shared → Prop} {news : List (Addr × Obj)} {rd c lst cA cI cN : Addr} {oc oA oI oN : Obj} {name qual : Str} {params : Arguments} {body : List Stmt} {scope : Scope} {doc pm ct : Value} {vs tab : Array Value} {tq : Tok} {n len : Nat} {un' t1 t2 : Tok} {vals : List Value} {ns : List Int} {k : Nat} {f : Nat → Nat}
    (B : Below A₀ base outer h₀) (F : Fr h₀ L s.heap m) (X : (hd.heap_1 w.params).In h₀) (N : News h₀ L s.heap news) (T : Top tp tl mean mg mb h₀) (hf : env.frame = some L) (hke : env.scope.kind = .function)
    (m1 : (rd, { cls := .type "function", data := .func (fnX name qual params body scope [("n", cN), ("inner", cI), ("digits", cA)] .none .none doc pm none (.ref c) ct) }) ∈ news) (m2 : (c, oc) ∈ news) (m3 : (lst, listOf vals.toArray k) ∈ news) (m4 : (cA, oA) ∈ news) (m5 : (cI, oI) ∈ news) (m6 : (cN, oN) ∈ news)
    (m7 : (44, tabObj tab) ∈ news)
    (hdef : nestedDef ((hd.heap_1 w.params).lookup 49) 0 = some (params, body, scope)) (hcd : oc.data = .fields vs) (hvs : vs[1]? = some (.str qual tq)) (hA : oA.data = .cell (some (.ref lst))) (hI : oI.data = .cell (some (.ref rd))) (hN : oN.data = .cell (some (.int (n : Int) un')))
    (n1 : lst ≠ rd) (n2 : lst ≠ c) (n3 : lst ≠ cA) (n4 : lst ≠ cI) (n5 : lst ≠ cN) (q1 : rd ≠ 44) (q2 : c ≠ 44) (q3 : lst ≠ 44) (q4 : cA ≠ 44) (q5 : cI ≠ 44) (q6 : cN ≠ 44)
    (hn : 0 < n) (hn2 : n < 5000) (hi : IntsAre vals ns) (hfx : ∀ i, f i < 2 ^ n) (hfn : ∀ i, ns.getD i 0 = (f i : Int)) (hlen : ns.length = len) (hl0 : 0 < len) (hl60 : len ≤ 60)
    (hd : dp + 65 < recursionLimit) (hu : un + 300 < cLine)
    (ret : ∀ t h' tk', Fr h₀ L h' m → News h₀ L h' (innerDL rd c lst cA cI cN oc oA oI oN name qual params body scope doc pm ct vals k ++ [(44, tabObj tab)]) → Q (.int ((hv n f 0 len : Nat) : Int) t) { s with heap := h', toks := tk' }) :
    wpAny (model Challenge.rw_pe0259_01.row.prog w) (Ar dp un gd (env :: outer)) (call (.ref rd) [.int 0 t1, .int (len : Int) t2]) Q E s := by
  refine use_g (innerD_c w rd c lst cA cI cN oc oA oI oN name qual params body scope doc pm ct vs tq n un' hdef hcd hvs hA hI hN n1 n2 n3 n4 n5 hn hn2 vals ns k f hi (by omega) hfx hfn len 0 len t1 t2 hl0 (by omega) (by omega)) (oth := [(44, tabObj tab)]) B F X N T hf hke ?_ ?_ ?_ (by omega) (by omega) ?_
  · exact List.forall_mem_cons.mpr ⟨m1, List.forall_mem_cons.mpr ⟨m2, List.forall_mem_cons.mpr ⟨m3, List.forall_mem_cons.mpr ⟨m4, List.forall_mem_cons.mpr ⟨m5, List.forall_mem_cons.mpr ⟨m6, List.forall_mem_nil _⟩⟩⟩⟩⟩⟩
  · exact List.forall_mem_cons.mpr ⟨m7, List.forall_mem_nil _⟩
  · exact List.forall_mem_cons.mpr ⟨List.forall_mem_cons.mpr ⟨q1.symm, List.forall_mem_cons.mpr ⟨q2.symm, List.forall_mem_cons.mpr ⟨q3.symm, List.forall_mem_cons.mpr ⟨q4.symm, List.forall_mem_cons.mpr ⟨q5.symm, List.forall_mem_cons.mpr ⟨q6.symm, List.forall_mem_nil _⟩⟩⟩⟩⟩⟩, List.forall_mem_nil _⟩
  rintro v sel' h' tk' F' N' - - ⟨⟨t, rfl⟩, rfl⟩
  exact ret t h' tk' F' N'
end
theorem tab_post {g h : Heap} {L : Addr} {news : List (Addr × Obj)} {P line col : Nat} {qual : Str} {c : Addr} {oc : Obj} {vs tab : Array Value} {t : Tok} (N : News g L h news)
    (m2 : (P, tabObj tab) ∈ news) (htab : tab = #[rawInt line, rawInt col, .ref c]) (m3 : (c, oc) ∈ news) (hcd : oc.data = .fields vs) (hvs : vs[1]? = some (.str qual t)) (q1 : c ≠ P) :
    ∃ sel', (∀ p ∈ sel', h.get? p.1 = some p.2 ∧ g.get? p.1 = none) ∧ TabSt P line col qual sel' := by
  subst htab
  refine ⟨_, ?_, .inr ⟨c, oc, vs, t, rfl, hcd, hvs, q1⟩⟩
  have hm : ∀ p ∈ _, p ∈ news := List.forall_mem_cons.mpr ⟨m2, List.forall_mem_cons.mpr ⟨m3, List.forall_mem_nil _⟩⟩
  exact fun p hp => ⟨(N p (hm p hp)).1, (N p (hm p hp)).2.2⟩
theorem digits2int_c (w : World) (lst : Addr) (vals : List Value) (ns : List Int) (k n len : Nat) (f : Nat → Nat) (tn : Tok) (tb : List (Addr × Obj)) (TS : TabSt 44 50 4 "_digits2int.<locals>.inner" tb) (hlt : ∀ p ∈ tb, lst ≠ p.1) (hn : 0 < n) (hn2 : n < 5000) (hv1 : IntsAre vals ns) (hlen : ns.length = len) (hl : len ≤ 60)
    (hfx : ∀ i, f i < 2 ^ n) (hfn : ∀ i, ns.getD i 0 = (f i : Int)) :
    Con w 70 400 49 [.ref lst, .int n tn] ((lst, listOf vals.toArray k) :: tb) (fun _ v blk => (∃ t, v = .int ((hv n f 0 len : Nat) : Int) t) ∧ TabSt 44 50 4 "_digits2int.<locals>.inner" blk) := by
  have hl9 := hv1.length
  rcases TS with rfl | ⟨c0, oc0, vs0, t0, rfl, hcd0, hvs0, hcP⟩
  all_goals
    have h44 : lst ≠ 44 := hlt (44, _) (.head _)
    try have h45 : lst ≠ c0 := hlt (c0, _) (.tail _ (.head _))
    unfold Con
    k_fill
    intro dp un gd outer base g tp tl mean mg mb s R B hg hsz hsel X T hd hu ret
    refine' enter_gc hg hsz hsel X T ?k6 ?k7 ?k8 ?k9 ?kB ?kD ?_ ?c2 ?c3 ?c4
    (case k6 => k_is); (case k7 => k_is); (case k8 => ktr_room); (case k9 => exact BindsTo.of_eq rfl); (case kB => exact rfl); (case kD => decide +kernel); (case c2 => exact rfl); (case c3 => exact rfl); (case c4 => exact rfl)
    k_whole
    intro L' h' tk' cells' F' N' Y' l1
    (try k_lt l1); k_cells Y'; (try simp only [List.cons_append, List.nil_append] at N')
    have codeHd := codeHd_of_K (c := 48) (P := 44) X (by kernel_rfl)
    (try dsimp only); (try k_fold)
    ((repeat' ((fail_if_success (with_reducible show wpAny _ _ (call (Value.ref _) _) _ _ _)); (first | (k_unfold; (try dsimp only)) | ((with_reducible first | show wpAny _ _ (exec _ _) _ _ _ | show wpAny _ _ (execs _ _) _ _ _); k_fold) | (k_end; wrow_close) | walk1 | (dsimp only; walk1) | (leave1; (try dsimp only))))) <;> (repeat (k_unfold; (try dsimp only))))
    · rename Fr _ _ _ _ => F9
      rename News _ _ _ _ => N9
      rename (0 < ns.length) => hpos
      refine d2i_call B F9 X N9 T rfl rfl (by k_mem) (by k_mem) (by k_mem) (by k_mem) (by k_mem) (by k_mem) (by k_mem) (by exact rfl) (by assumption) (by assumption) (by assumption) (by assumption) (by assumption)
        (by first | assumption | (refine Ne.symm ?_; assumption) | (refine neN ?_; (try dsimp only); first | (refine Nat.ne_of_gt ?_; with_reducible ((repeat (first | assumption | exact And.left (by assumption) | exact And.left (And.right (by assumption)) | exact And.right (And.right (by assumption)) | exact And.right (by assumption) | exact And.left (And.right (And.right (by assumption))) | exact And.right (And.right (And.right (by assumption))) | exact And.left (And.right (And.right (And.right (by assumption)))) | exact And.left (And.right (And.right (And.right (And.right (by assumption))))) | refine Nat.lt_trans ?_ (by assumption))); done)) | (refine Nat.ne_of_lt ?_; with_reducible ((repeat (first | assumption | exact And.left (by assumption) | exact And.left (And.right (by assumption)) | exact And.right (And.right (by assumption)) | exact And.right (by assumption) | exact And.left (And.right (And.right (by assumption))) | exact And.right (And.right (And.right (by assumption))) | exact And.left (And.right (And.right (And.right (by assumption)))) | exact And.left (And.right (And.right (And.right (And.right (by assumption))))) | refine Nat.lt_trans ?_ (by assumption))); done)) | omega)) (by first | assumption | (refine Ne.symm ?_; assumption) | (refine neN ?_; (try dsimp only); first | (refine Nat.ne_of_gt ?_; with_reducible ((repeat (first | assumption | exact And.left (by assumption) | exact And.left (And.right (by assumption)) | exact And.right (And.right (by assumption)) | exact And.right (by assumption) | exact And.left (And.right (And.right (by assumption))) | exact And.right (And.right (And.right (by assumption))) | exact And.left (And.right (And.right (And.right (by assumption)))) | exact And.left (And.right (And.right (And.right (And.right (by assumption))))) | refine Nat.lt_trans ?_ (by assumption))); done)) | (refine Nat.ne_of_lt ?_; with_reducible ((repeat (first | assumption | exact And.left (by assumption) | exact And.left (And.right (by assumption)) | exact And.right (And.right (by assumption)) | exact And.right (by assumption) | exact And.left (And.right (And.right (by assumption))) | exact And.right (And.right (And.right (by assumption))) | exact And.left (And.right (And.right (And.right (by assumption)))) | exact And.left (And.right (And.right (And.right (And.right (by assumption))))) | refine Nat.lt_trans ?_ (by assumption))); done)) | omega)) (by first | assumption | (refine Ne.symm ?_; assumption) | (refine neN ?_; (try dsimp only); first | (refine Nat.ne_of_gt ?_; with_reducible ((repeat (first | assumption | exact And.left (by assumption) | exact And.left (And.right (by assumption)) | exact And.right (And.right (by assumption)) | exact And.right (by assumption) | exact And.left (And.right (And.right (by assumption))) | exact And.right (And.right (And.right (by assumption))) | exact And.left (And.right (And.right (And.right (by assumption)))) | exact And.left (And.right (And.right (And.right (And.right (by assumption))))) | refine Nat.lt_trans ?_ (by assumption))); done)) | (refine Nat.ne_of_lt ?_; with_reducible ((repeat (first | assumption | exact And.left (by assumption) | exact And.left (And.right (by assumption)) | exact And.right (And.right (by assumption)) | exact And.right (by assumption) | exact And.left (And.right (And.right (by assumption))) | exact And.right (And.right (And.right (by assumption))) | exact And.left (And.right (And.right (And.right (by assumption)))) | exact And.left (And.right (And.right (And.right (And.right (by assumption))))) | refine Nat.lt_trans ?_ (by assumption))); done)) | omega)) (by first | assumption | (refine Ne.symm ?_; assumption) | (refine neN ?_; (try dsimp only); first | (refine Nat.ne_of_gt ?_; with_reducible ((repeat (first | assumption | exact And.left (by assumption) | exact And.left (And.right (by assumption)) | exact And.right (And.right (by assumption)) | exact And.right (by assumption) | exact And.left (And.right (And.right (by assumption))) | exact And.right (And.right (And.right (by assumption))) | exact And.left (And.right (And.right (And.right (by assumption)))) | exact And.left (And.right (And.right (And.right (And.right (by assumption))))) | refine Nat.lt_trans ?_ (by assumption))); done)) | (refine Nat.ne_of_lt ?_; with_reducible ((repeat (first | assumption | exact And.left (by assumption) | exact And.left (And.right (by assumption)) | exact And.right (And.right (by assumption)) | exact And.right (by assumption) | exact And.left (And.right (And.right (by assumption))) | exact And.right (And.right (And.right (by assumption))) | exact And.left (And.right (And.right (And.right (by assumption)))) | exact And.left (And.right (And.right (And.right (And.right (by assumption))))) | refine Nat.lt_trans ?_ (by assumption))); done)) | omega)) (by first | assumption | (refine Ne.symm ?_; assumption) | (refine neN ?_; (try dsimp only); first | (refine Nat.ne_of_gt ?_; with_reducible ((repeat (first | assumption | exact And.left (by assumption) | exact And.left (And.right (by assumption)) | exact And.right (And.right (by assumption)) | exact And.right (by assumption) | exact And.left (And.right (And.right (by assumption))) | exact And.right (And.right (And.right (by assumption))) | exact And.left (And.right (And.right (And.right (by assumption)))) | exact And.left (And.right (And.right (And.right (And.right (by assumption))))) | refine Nat.lt_trans ?_ (by assumption))); done)) | (refine Nat.ne_of_lt ?_; with_reducible ((repeat (first | assumption | exact And.left (by assumption) | exact And.left (And.right (by assumption)) | exact And.right (And.right (by assumption)) | exact And.right (by assumption) | exact And.left (And.right (And.right (by assumption))) | exact And.right (And.right (And.right (by assumption))) | exact And.left (And.right (And.right (And.right (by assumption)))) | exact And.left (And.right (And.right (And.right (And.right (by assumption))))) | refine Nat.lt_trans ?_ (by assumption))); done)) | omega)) (by first | assumption | (refine Ne.symm ?_; assumption) | (refine neN ?_; (try dsimp only); first | (refine Nat.ne_of_gt ?_; with_reducible ((repeat (first | assumption | exact And.left (by assumption) | exact And.left (And.right (by assumption)) | exact And.right (And.right (by assumption)) | exact And.right (by assumption) | exact And.left (And.right (And.right (by assumption))) | exact And.right (And.right (And.right (by assumption))) | exact And.left (And.right (And.right (And.right (by assumption)))) | exact And.left (And.right (And.right (And.right (And.right (by assumption))))) | refine Nat.lt_trans ?_ (by assumption))); done)) | (refine Nat.ne_of_lt ?_; with_reducible ((repeat (first | assumption | exact And.left (by assumption) | exact And.left (And.right (by assumption)) | exact And.right (And.right (by assumption)) | exact And.right (by assumption) | exact And.left (And.right (And.right (by assumption))) | exact And.right (And.right (And.right (by assumption))) | exact And.left (And.right (And.right (And.right (by assumption)))) | exact And.left (And.right (And.right (And.right (And.right (by assumption))))) | refine Nat.lt_trans ?_ (by assumption))); done)) | omega)) (by first | assumption | (refine Ne.symm ?_; assumption) | (refine neN ?_; (try dsimp only); first | (refine Nat.ne_of_gt ?_; with_reducible ((repeat (first | assumption | exact And.left (by assumption) | exact And.left (And.right (by assumption)) | exact And.right (And.right (by assumption)) | exact And.right (by assumption) | exact And.left (And.right (And.right (by assumption))) | exact And.right (And.right (And.right (by assumption))) | exact And.left (And.right (And.right (And.right (by assumption)))) | exact And.left (And.right (And.right (And.right (And.right (by assumption))))) | refine Nat.lt_trans ?_ (by assumption))); done)) | (refine Nat.ne_of_lt ?_; with_reducible ((repeat (first | assumption | exact And.left (by assumption) | exact And.left (And.right (by assumption)) | exact And.right (And.right (by assumption)) | exact And.right (by assumption) | exact And.left (And.right (And.right (by assumption))) | exact And.right (And.right (And.right (by assumption))) | exact And.left (And.right (And.right (And.right (by assumption)))) | exact And.left (And.right (And.right (And.right (And.right (by assumption))))) | refine Nat.lt_trans ?_ (by assumption))); done)) | omega)) (by first | assumption | (refine Ne.symm ?_; assumption) | (refine neN ?_; (try dsimp only); first | (refine Nat.ne_of_gt ?_; with_reducible ((repeat (first | assumption | exact And.left (by assumption) | exact And.left (And.right (by assumption)) | exact And.right (And.right (by assumption)) | exact And.right (by assumption) | exact And.left (And.right (And.right (by assumption))) | exact And.right (And.right (And.right (by assumption))) | exact And.left (And.right (And.right (And.right (by assumption)))) | exact And.left (And.right (And.right (And.right (And.right (by assumption))))) | refine Nat.lt_trans ?_ (by assumption))); done)) | (refine Nat.ne_of_lt ?_; with_reducible ((repeat (first | assumption | exact And.left (by assumption) | exact And.left (And.right (by assumption)) | exact And.right (And.right (by assumption)) | exact And.right (by assumption) | exact And.left (And.right (And.right (by assumption))) | exact And.right (And.right (And.right (by assumption))) | exact And.left (And.right (And.right (And.right (by assumption)))) | exact And.left (And.right (And.right (And.right (And.right (by assumption))))) | refine Nat.lt_trans ?_ (by assumption))); done)) | omega)) (by first | assumption | (refine Ne.symm ?_; assumption) | (refine neN ?_; (try dsimp only); first | (refine Nat.ne_of_gt ?_; with_reducible ((repeat (first | assumption | exact And.left (by assumption) | exact And.left (And.right (by assumption)) | exact And.right (And.right (by assumption)) | exact And.right (by assumption) | exact And.left (And.right (And.right (by assumption))) | exact And.right (And.right (And.right (by assumption))) | exact And.left (And.right (And.right (And.right (by assumption)))) | exact And.left (And.right (And.right (And.right (And.right (by assumption))))) | refine Nat.lt_trans ?_ (by assumption))); done)) | (refine Nat.ne_of_lt ?_; with_reducible ((repeat (first | assumption | exact And.left (by assumption) | exact And.left (And.right (by assumption)) | exact And.right (And.right (by assumption)) | exact And.right (by assumption) | exact And.left (And.right (And.right (by assumption))) | exact And.right (And.right (And.right (by assumption))) | exact And.left (And.right (And.right (And.right (by assumption)))) | exact And.left (And.right (And.right (And.right (And.right (by assumption))))) | refine Nat.lt_trans ?_ (by assumption))); done)) | omega)) (by first | assumption | (refine Ne.symm ?_; assumption) | (refine neN ?_; (try dsimp only); first | (refine Nat.ne_of_gt ?_; with_reducible ((repeat (first | assumption | exact And.left (by assumption) | exact And.left (And.right (by assumption)) | exact And.right (And.right (by assumption)) | exact And.right (by assumption) | exact And.left (And.right (And.right (by assumption))) | exact And.right (And.right (And.right (by assumption))) | exact And.left (And.right (And.right (And.right (by assumption)))) | exact And.left (And.right (And.right (And.right (And.right (by assumption))))) | refine Nat.lt_trans ?_ (by assumption))); done)) | (refine Nat.ne_of_lt ?_; with_reducible ((repeat (first | assumption | exact And.left (by assumption) | exact And.left (And.right (by assumption)) | exact And.right (And.right (by assumption)) | exact And.right (by assumption) | exact And.left (And.right (And.right (by assumption))) | exact And.right (And.right (And.right (by assumption))) | exact And.left (And.right (And.right (And.right (by assumption)))) | exact And.left (And.right (And.right (And.right (And.right (by assumption))))) | refine Nat.lt_trans ?_ (by assumption))); done)) | omega)) (by first | assumption | (refine Ne.symm ?_; assumption) | (refine neN ?_; (try dsimp only); first | (refine Nat.ne_of_gt ?_; with_reducible ((repeat (first | assumption | exact And.left (by assumption) | exact And.left (And.right (by assumption)) | exact And.right (And.right (by assumption)) | exact And.right (by assumption) | exact And.left (And.right (And.right (by assumption))) | exact And.right (And.right (And.right (by assumption))) | exact And.left (And.right (And.right (And.right (by assumption)))) | exact And.left (And.right (And.right (And.right (And.right (by assumption))))) | refine Nat.lt_trans ?_ (by assumption))); done)) | (refine Nat.ne_of_lt ?_; with_reducible ((repeat (first | assumption | exact And.left (by assumption) | exact And.left (And.right (by assumption)) | exact And.right (And.right (by assumption)) | exact And.right (by assumption) | exact And.left (And.right (And.right (by assumption))) | exact And.right (And.right (And.right (by assumption))) | exact And.left (And.right (And.right (And.right (by assumption)))) | exact And.left (And.right (And.right (And.right (And.right (by assumption))))) | refine Nat.lt_trans ?_ (by assumption))); done)) | omega)) hn hn2 hv1 hfx hfn rfl hpos (by omega) (by k_room) (by k_units) ?_
      intro t2 h2 tk2 F2 N2
      simp only [innerDL, List.cons_append, List.nil_append] at N2
      clear F9 N9
      (try dsimp only)
      ((repeat' (first | (k_unfold; (try dsimp only)) | ((with_reducible first | show wpAny _ _ (exec _ _) _ _ _ | show wpAny _ _ (execs _ _) _ _ _); k_fold) | (k_end; wrow_close) | walk1 | (dsimp only; walk1) | (leave1; (try dsimp only)))) <;> (repeat (k_unfold; (try dsimp only))))
      (try dsimp only)
      rename Fr _ _ _ _ => F9
      rename News _ _ _ _ => N9
      subst hlen
      refine (tab_post N9 (by k_mem) (by exact rfl) (by k_mem) (by assumption) (by assumption) (by first | assumption | (refine Ne.symm ?_; assumption) | (refine neN ?_; (try dsimp only); first | (refine Nat.ne_of_gt ?_; with_reducible ((repeat (first | assumption | exact And.left (by assumption) | exact And.left (And.right (by assumption)) | exact And.right (And.right (by assumption)) | exact And.right (by assumption) | exact And.left (And.right (And.right (by assumption))) | exact And.right (And.right (And.right (by assumption))) | exact And.left (And.right (And.right (And.right (by assumption)))) | exact And.left (And.right (And.right (And.right (And.right (by assumption))))) | refine Nat.lt_trans ?_ (by assumption))); done)) | (refine Nat.ne_of_lt ?_; with_reducible ((repeat (first | assumption | exact And.left (by assumption) | exact And.left (And.right (by assumption)) | exact And.right (And.right (by assumption)) | exact And.right (by assumption) | exact And.left (And.right (And.right (by assumption))) | exact And.right (And.right (And.right (by assumption))) | exact And.left (And.right (And.right (And.right (by assumption)))) | exact And.left (And.right (And.right (And.right (And.right (by assumption))))) | refine Nat.lt_trans ?_ (by assumption))); done)) | omega))).elim (fun sel9 H9 => ret _ sel9 _ _ F9.keep H9.1 ⟨⟨_, rfl⟩, H9.2⟩)
    · rename Fr _ _ _ _ => F9
      rename News _ _ _ _ => N9
      rename (¬ 0 < ns.length) => hpos
      have hl0 : len = 0 := by omega
      have hdz : hv n f 0 len = 0 := by rw [hl0]; rfl
      (try dsimp only)
      refine (tab_post N9 (by k_mem) (by exact rfl) (by k_mem) (by assumption) (by assumption) (by first | assumption | (refine Ne.symm ?_; assumption) | (refine neN ?_; (try dsimp only); first | (refine Nat.ne_of_gt ?_; with_reducible ((repeat (first | assumption | exact And.left (by assumption) | exact And.left (And.right (by assumption)) | exact And.right (And.right (by assumption)) | exact And.right (by assumption) | exact And.left (And.right (And.right (by assumption))) | exact And.right (And.right (And.right (by assumption))) | exact And.left (And.right (And.right (And.right (by assumption)))) | exact And.left (And.right (And.right (And.right (And.right (by assumption))))) | refine Nat.lt_trans ?_ (by assumption))); done)) | (refine Nat.ne_of_lt ?_; with_reducible ((repeat (first | assumption | exact And.left (by assumption) | exact And.left (And.right (by assumption)) | exact And.right (And.right (by assumption)) | exact And.right (by assumption) | exact And.left (And.right (And.right (by assumption))) | exact And.right (And.right (And.right (by assumption))) | exact And.left (And.right (And.right (And.right (by assumption)))) | exact And.left (And.right (And.right (And.right (And.right (by assumption))))) | refine Nat.lt_trans ?_ (by assumption))); done)) | omega))).elim (fun sel9 H9 => ret _ sel9 _ _ F9.keep H9.1 ⟨⟨_, by rw [hdz]; exact rfl⟩, H9.2⟩)
section
variable {prog : Program} {w : World} {A : Around} {E : Value → Shared → Prop} {s : Shared} {t u : Tok} {Q : Value → Shared → Prop}
theorem add_nn {x y : Nat} (h : Q (.int ((x + y : Nat) : Int) s.toks) { s with toks := s.toks + 1 }) : wpAny (model prog w) A (binaryOp .Add (.int (x : Int) t) (.int (y : Int) u)) Q E s := by
  refine add_int ?_
  rw [← Int.natCast_add]; exact h
end
/-- the top i of len digits of a -/
noncomputable def topD (n len a i : Nat) : Nat := a / 2 ^ (n * (len - i))
theorem topD_zero {n len a : Nat} (h : a < 2 ^ (n * len)) : topD n len a 0 = 0 := by
  unfold topD; exact Nat.div_eq_of_lt (by simpa using h)
theorem topD_all {n len a : Nat} : topD n len a len = a := by simp [topD]
theorem topD_succ {n len a i : Nat} (h : i < len) : topD n len a (i + 1) = topD n len a i * 2 ^ n + dig n a (len - 1 - i) := by
  unfold topD dig
  rw [show n * (len - i) = n * (len - (i + 1)) + n from by rw [← Nat.mul_succ]; congr 1; omega, Nat.pow_add, ← Nat.div_div_eq_div_mul, show len - (i + 1) = len - 1 - i from by omega]
  have := Nat.div_add_mod (a / 2 ^ (n * (len - 1 - i))) (2 ^ n)
  rw [Nat.mul_comm] at this
  exact this.symm
theorem qdig {n len a b i : Nat} (hb : 0 < b) (h : i < len) : ((topD n len a i % b) * 2 ^ n + dig n a (len - 1 - i)) / b = dig n (a / b) (len - 1 - i) ∧ ((topD n len a i % b) * 2 ^ n + dig n a (len - 1 - i)) % b = topD n len a (i + 1) % b := by
  have e := topD_succ (n := n) (a := a) h
  have hd : dig n a (len - 1 - i) < 2 ^ n := Nat.mod_lt _ (Nat.two_pow_pos _)
  have e2 : topD n len a (i + 1) = (topD n len a i % b * 2 ^ n + dig n a (len - 1 - i)) + b * (topD n len a i / b * 2 ^ n) := by
    rw [e]
    have := Nat.div_add_mod (topD n len a i) b
    have h3 : topD n len a i * 2 ^ n = (b * (topD n len a i / b) + topD n len a i % b) * 2 ^ n := by rw [this]
    rw [h3, Nat.add_mul, Nat.mul_assoc]
    omega
  have hlt : (topD n len a i % b * 2 ^ n + dig n a (len - 1 - i)) / b < 2 ^ n := by
    rw [Nat.div_lt_iff_lt_mul hb]
    have h1 := Nat.mod_lt (topD n len a i) hb
    have h2 : (topD n len a i % b + 1) * 2 ^ n ≤ b * 2 ^ n := Nat.mul_le_mul_right _ h1
    rw [Nat.add_mul, Nat.one_mul] at h2
    rw [Nat.mul_comm (2 ^ n) b]
    omega
  constructor
  · have h4 : topD n len a (i + 1) / b = (topD n len a i % b * 2 ^ n + dig n a (len - 1 - i)) / b + topD n len a i / b * 2 ^ n := by
      rw [e2, Nat.add_mul_div_left _ _ hb]
    have h5 : topD n len a (i + 1) / b = a / b / 2 ^ (n * (len - 1 - i)) := by
      unfold topD
      rw [Nat.div_div_eq_div_mul, Nat.div_div_eq_div_mul, Nat.mul_comm, show len - (i + 1) = len - 1 - i from by omega]
    unfold dig at *
    rw [← h5, h4, Nat.add_mul_mod_self_right, Nat.mod_eq_of_lt hlt]
  · rw [e2, Nat.add_mul_mod_self_left]
theorem hv_dig (n x k : Nat) : ∀ L, hv n (fun i => dig n x i) L k = x / 2 ^ (n * L) % 2 ^ (n * k) := by
  induction k with
  | zero => intro L; simp [hv, Nat.mod_one]
  | succ k ih =>
    intro L
    rw [hv, ih]
    unfold dig
    rw [Nat.mul_succ, Nat.pow_add, ← Nat.div_div_eq_div_mul, Nat.mul_succ, Nat.pow_add, Nat.mul_comm (2 ^ (n * k)), Nat.mod_mul]
theorem ints_get {vs : List Value} {ns : List Int} (h : IntsAre vs ns) {i : Nat} {v : Value} (hv : vs[i]? = some v) : ∃ t, v = .int (ns.getD i 0) t := by
  induction h generalizing i with
  | nil => simp at hv
  | cons a t h ih =>
    cases i with
    | zero => simp at hv; exact ⟨t, hv.symm⟩
    | succ i => simpa using ih (by simpa using hv)
theorem tab_data {P line col : Nat} {qual : Str} {tb : List (Addr × Obj)} (S : TabSt P line col qual tb) : ∀ p ∈ tb, (p.1 = P ∧ ∃ ps, p.2 = tabObj ps ∧ ∀ x t, ps[1]? ≠ some (.str x t)) ∨ ∃ vs t, p.2.data = .fields vs ∧ vs[1]? = some (.str qual t) := by
  rcases S with rfl | ⟨c, oc, vs, t, rfl, h1, h2, -⟩
  · exact List.forall_mem_cons.mpr ⟨.inl ⟨rfl, _, rfl, by simp⟩, List.forall_mem_nil _⟩
  · exact List.forall_mem_cons.mpr ⟨.inl ⟨rfl, _, rfl, by simp [rawInt]⟩, List.forall_mem_cons.mpr ⟨.inr ⟨vs, t, h1, h2⟩, List.forall_mem_nil _⟩⟩
theorem tabs_off {h : Heap} {P line col P' line' col' : Nat} {qual qual' : Str} {T3 T4 : List (Addr × Obj)} (S3 : TabSt P line col qual T3) (S4 : TabSt P' line' col' qual' T4) (hP : P ≠ P') (hq : qual ≠ qual')
    (h3 : ∀ p ∈ T3, h.get? p.1 = some p.2) (h4 : ∀ p ∈ T4, h.get? p.1 = some p.2) : ∀ p ∈ T4, ∀ q ∈ T3, p.1 ≠ q.1 := by
  intro p hp q hq2 e
  have e2 := h4 p hp
  rw [e, h3 q hq2] at e2
  have e3 : q.2 = p.2 := Option.some.inj e2
  rcases tab_data S4 p hp with ⟨a1, ps, a2, a3⟩ | ⟨vs, t, a1, a2⟩ <;> rcases tab_data S3 q hq2 with ⟨c1, qs, c2, c3⟩ | ⟨us, u, c1, c2⟩
  · exact hP (c1.symm.trans (e.symm.trans a1))
  · rw [e3, a2] at c1
    have : ps = us := Data.fields.inj c1
    subst this
    exact a3 _ _ c2
  · rw [← e3, c2] at a1
    have : qs = vs := Data.fields.inj a1
    subst this
    exact c3 _ _ a2
  · rw [e3, a1] at c1
    have : vs = us := Data.fields.inj c1
    subst this
    rw [a2] at c2
    exact hq (Value.str.inj (Option.some.inj c2)).1.symm
theorem ints_app {vs us : List Value} {ns ms : List Int} (h : IntsAre vs ns) (h2 : IntsAre us ms) : IntsAre (vs ++ us) (ns ++ ms) := by
  induction h with
  | nil => exact h2
  | cons a t h ih => exact .cons a t ih
theorem ints_rev {vs : List Value} {ns : List Int} (h : IntsAre vs ns) : IntsAre vs.reverse ns.reverse := by
  induction h with
  | nil => exact .nil
  | cons a t h ih => rw [List.reverse_cons, List.reverse_cons]; exact ints_app ih (.cons a t .nil)
/-- the locals of _divmod_pos in its loop -/
noncomputable def pm (a b n r : Int) (D Dq : Addr) (ta tb tn tr : Tok) (dv qv : Option Value) : Str → Option Value :=
  fun y => if y = "a_digit" then dv else if y = "q_digit" then qv else if y = "r" then some (.int r tr) else if y = "q_digits" then some (.ref Dq) else if y = "a_digits" then some (.ref D) else if y = "n" then some (.int n tn)
    else if y = "a" then some (.int a ta) else if y = "b" then some (.int b tb) else none
/-- the quotient's digits that i turns have made, the highest first -/
noncomputable def qTo (n len q i : Nat) : List Int := (List.range i).map fun j => ((dig n q (len - 1 - j) : Nat) : Int)
theorem qTo_succ {n len q i : Nat} : qTo n len q (i + 1) = qTo n len q i ++ [((dig n q (len - 1 - i) : Nat) : Int)] := by
  unfold qTo; rw [List.range_succ, List.map_append]; rfl
theorem qTo_rev {n len q : Nat} : (qTo n len q len).reverse = digsOf n len q := by
  apply List.ext_getElem
  · simp [qTo, digsOf]
  · intro i h1 h2
    simp only [qTo, List.length_reverse, List.length_map, List.length_range] at h1
    simp only [qTo, digsOf, List.getElem_reverse, List.getElem_map, List.getElem_range, List.length_map, List.length_range]
    congr 2; omega
theorem digsOf_getD {n len q : Nat} (i : Nat) (h : q < 2 ^ (n * len)) : (digsOf n len q).getD i 0 = ((dig n q i : Nat) : Int) := by
  unfold digsOf
  rw [List.getD_eq_getElem?_getD]
  by_cases hi : i < len
  · simp [hi]
  · have : dig n q i = 0 := by
      unfold dig
      rw [Nat.div_eq_of_lt (Nat.lt_of_lt_of_le h (Nat.pow_le_pow_right (by omega) (Nat.mul_le_mul_left _ (by omega))))]
      exact Nat.zero_mod _
    simp [hi, this]
/-- a new pair of ints and the tables of the two defs -/
noncomputable def PairTabs (v : Value) (q r : Int) (blk : List (Addr × Obj)) : Prop :=
  ∃ T T3 T4 tq tr, v = .ref T ∧ TabSt 37 35 4 "_int2digits.<locals>.inner" T3 ∧ TabSt 44 50 4 "_digits2int.<locals>.inner" T4 ∧ blk = (T, { cls := .type "tuple", data := .seq #[.int q tq, .int r tr] }) :: (T3 ++ T4)
theorem pair_post {g h : Heap} {L T : Addr} {news T3 T4 : List (Addr × Obj)} {q r : Int} {tq tr : Tok} (N : News g L h news) (m1 : (T, { cls := .type "tuple", data := .seq #[.int q tq, .int r tr] }) ∈ news) (m2 : ∀ p ∈ T3 ++ T4, p ∈ news)
    (S3 : TabSt 37 35 4 "_int2digits.<locals>.inner" T3) (S4 : TabSt 44 50 4 "_digits2int.<locals>.inner" T4) :
    ∃ sel', (∀ p ∈ sel', h.get? p.1 = some p.2 ∧ g.get? p.1 = none) ∧ PairTabs (.ref T) q r sel' := by
  refine ⟨_, ?_, T, T3, T4, tq, tr, rfl, S3, S4, rfl⟩
  intro p hp
  rcases List.mem_cons.mp hp with rfl | hp
  · exact ⟨(N _ m1).1, (N _ m1).2.2⟩
  · exact ⟨(N _ (m2 _ hp)).1, (N _ (m2 _ hp)).2.2⟩
theorem divmod_pos_c (w : World) (a b n len : Nat) (ta tb : Tok) (T3 T4 : List (Addr × Obj)) (S3 : TabSt 37 35 4 "_int2digits.<locals>.inner" T3) (S4 : TabSt 44 50 4 "_digits2int.<locals>.inner" T4)
    (hb : 0 < b) (hn : n = Builtin.Int.intBits (b : Int)) (hn2 : n < 1900) (ha : a < 2 ^ 4000) (hlen : len = (Builtin.Int.intBits (a : Int) + n - 1) / n) (hl60 : len ≤ 60) :
    Con w 90 600 56 [.int a ta, .int b tb] (T3 ++ T4) (fun _ v blk => PairTabs v (a / b : Nat) (a % b : Nat) blk) := by
  have hbn : b < 2 ^ n := by rw [hn]; exact lt_bits b
  have hn0 : 0 < n := by
    rcases Nat.eq_zero_or_pos n with h | h
    · rw [h] at hbn; omega
    · exact h
  obtain ⟨b1, b2, b3⟩ := len_le hn0 hlen
  unfold Con
  k_fill
  intro dp un gd outer base g tp tl mean mg mb s R B hg hsz hsel X T hd hu ret
  refine' enter_g B hg hsz hsel X T ?k6 ?k7 ?k8 ?k9 ?kB ?_ ?c2 ?c3 ?c4 ?c5
  (case k6 => k_is); (case k7 => k_is); (case k8 => ktr_room); (case k9 => exact BindsTo.of_eq rfl); (case c5 => decide); (case kB => exact locs rfl); (case c2 => exact rfl); (case c3 => exact rfl); (case c4 => exact rfl)
  k_whole
  intro L' h' tk' F' N' l1
  (try dsimp only); (try k_fold)
  ((repeat' ((fail_if_success (with_reducible show wpAny _ _ (call (Value.ref 42) _) _ _ _)); (first | (k_unfold; (try dsimp only)) | ((with_reducible first | show wpAny _ _ (exec _ _) _ _ _ | show wpAny _ _ (execs _ _) _ _ _); k_fold) | (k_end; wrow_close) | walk1 | (dsimp only; walk1) | (leave1; (try dsimp only))))) <;> (repeat (k_unfold; (try dsimp only))))
  rename Fr _ _ _ _ => F1
  rename News _ _ _ _ => N1
  rw [← hn] at F1
  rw [← hn]
  have off0 := tabs_off S3 S4 (by decide) (by decide +kernel) (fun p hp => (N1 p (List.mem_append_left _ hp)).1) (fun p hp => (N1 p (List.mem_append_right _ hp)).1)
  refine use_g (int2digits_c w a n len _ _ T3 S3 hn0 (by omega) ha hlen hl60) (oth := T4) B F1 X N1 T rfl rfl (fun p hp => List.mem_append_left _ hp) (fun p hp => List.mem_append_right _ hp) off0 (by k_room) (by k_units) ?_
  rintro v2 blk2 h2 tk2 F2 N2 ne2 - ⟨D, vals, kd, T3', rfl, rfl, hvals, S3', hD⟩
  simp only [List.cons_append, List.nil_append] at N2
  clear F1 N1
  (try dsimp only)
  ((repeat' ((fail_if_success (with_reducible show wpAny _ _ (exec (Stmt.For _ _ _ _ _) _) _ _ _)); (first | (k_unfold; (try dsimp only)) | ((with_reducible first | show wpAny _ _ (exec _ _) _ _ _ | show wpAny _ _ (execs _ _) _ _ _); k_fold) | (k_end; wrow_close) | walk1 | (dsimp only; walk1) | (leave1; (try dsimp only))))) <;> (repeat (k_unfold; (try dsimp only))))
  rename Fr _ _ _ _ => F4
  rename News _ _ _ _ => N4
  refine wpAny_For ?_
  ((repeat' ((fail_if_success (with_reducible show wpAny _ _ (pyIter _) _ _ _)); (first | (k_unfold; (try dsimp only)) | ((with_reducible first | show wpAny _ _ (exec _ _) _ _ _ | show wpAny _ _ (execs _ _) _ _ _); k_fold) | (k_end; wrow_close) | walk1 | (dsimp only; walk1) | (leave1; (try dsimp only))))) <;> (repeat (k_unfold; (try dsimp only))))
  rename Fr _ _ _ _ => F5
  rename News _ _ _ _ => N5
  rename (_ < _ ∧ AllLt _ (T3' ++ T4)) => l9
  rename (_ < _ ∧ _ < _ ∧ AllLt _ (T3' ++ T4)) => l8
  have hvl : vals.length = len := by rw [hvals.length]; simp [digsOf]
  rw [show ((vals.length : Nat) : Int) = ((vals.toArray.size : Nat) : Int) from by simp] at N5
  rename_i Dq _ _ I _
  have hDq : ∀ p ∈ T3' ++ T4, p.1 ≠ Dq := fun p hp => Nat.ne_of_lt (allLt_mem l9.2 p hp)
  have hDDq : D ≠ Dq := Nat.ne_of_lt l9.1
  have hnI : ∀ p ∈ (Dq, listOf #[] 0) :: (D, listOf vals.toArray kd) :: (T3' ++ T4), p.1 ≠ I := List.forall_mem_cons.mpr ⟨Nat.ne_of_lt l8.1, List.forall_mem_cons.mpr ⟨Nat.ne_of_lt l8.2.1, fun p hp => Nat.ne_of_lt (allLt_mem l8.2.2 p hp)⟩⟩
  refine' for_rev (env := envOf _ _ L' 56 _) (lo := listOf vals.toArray kd) (its := vals.toArray) rfl rfl ⟨_, rfl⟩ hnI rfl rfl rfl F5 N5
    (fun i m news => ∃ vq kq dv qv ta tb tn tr, IntsAre vq (qTo n len (a / b) i) ∧ (∀ p ∈ (Dq, listOf (List.toArray vq) kq) :: (D, listOf vals.toArray kd) :: (T3' ++ T4), p ∈ news) ∧ ∀ y, m y = pm a b n (topD n len a i % b : Nat) D Dq ta tb tn tr dv qv y) ?hJ ?h0 ?turn ?done
  case hJ => rintro i m nw ⟨vq, kq, dv, qv, ta, tb, tn, tr, h1, h2, h3⟩; exact h2 _ (.tail _ (.head _))
  case h0 =>
    refine' ⟨[], 0, _, _, _, _, _, _, .nil, fun p hp => hp, ?meq⟩
    case meq =>
      rw [topD_zero b1, Nat.zero_mod]
      (intro y; unfold pm; (rcases Classical.em (y = "a_digit") with rfl | h0); exact rfl; (rcases Classical.em (y = "q_digit") with rfl | h1); exact rfl; (rcases Classical.em (y = "r") with rfl | h2); exact rfl; (rcases Classical.em (y = "q_digits") with rfl | h3); exact rfl; (rcases Classical.em (y = "a_digits") with rfl | h4); exact rfl; (rcases Classical.em (y = "n") with rfl | h5); exact rfl; (rcases Classical.em (y = "a") with rfl | h6); exact rfl; (rcases Classical.em (y = "b") with rfl | h7); exact rfl; (try simp only [if_neg h0, if_neg h1, if_neg h2, if_neg h3, if_neg h4, if_neg h5, if_neg h6, if_neg h7]); (first | done | exact rfl | (show List.lookup y (_ :: _) = none; simp only [List.lookup, beq_eq_false_iff_ne.mpr h0, beq_eq_false_iff_ne.mpr h1, beq_eq_false_iff_ne.mpr h2, beq_eq_false_iff_ne.mpr h3, beq_eq_false_iff_ne.mpr h4, beq_eq_false_iff_ne.mpr h5, beq_eq_false_iff_ne.mpr h6, beq_eq_false_iff_ne.mpr h7]) | (simp only [List.lookup, beq_eq_false_iff_ne.mpr h0, beq_eq_false_iff_ne.mpr h1, beq_eq_false_iff_ne.mpr h2, beq_eq_false_iff_ne.mpr h3, beq_eq_false_iff_ne.mpr h4, beq_eq_false_iff_ne.mpr h5, beq_eq_false_iff_ne.mpr h6, beq_eq_false_iff_ne.mpr h7]; done)))
  case turn =>
    intro i v m₁ news₁ h6 tk6 oI hi hv hJ hI F6 N6
    obtain ⟨vq, kq, dv, qv, ta, tb, tn, tr, hvq, hsub, hm⟩ := hJ
    have hi2 : i < len := by rw [List.size_toArray, hvl] at hi; exact hi
    obtain ⟨td, rfl⟩ := ints_get hvals (by rw [List.size_toArray, hvl] at hv; simpa using hv)
    rw [digsOf_getD _ b1] at F6
    have N7 := News.sub_app N6 hsub
    simp only [List.cons_append, List.nil_append] at N7
    try clear F5 N5 N6
    have F7 : Fr g L' h6 (pm a b n (topD n len a i % b : Nat) D Dq ta tb tn tr (some (.int ((dig n a (len - 1 - i) : Nat) : Int) td)) qv) := Fr.congr F6 (fun y => by
      (try dsimp only); rw [hm]; unfold pm; split <;> rfl)
    clear F6
    unfold pm at F7
    (try dsimp only); (try k_fold)
    have hlq : vq.length ≤ 60 := by rw [hvq.length]; simp [qTo]; omega
    have hrb := Nat.mod_lt (topD n len a i) hb
    have hsh : n + n ≤ 2 ^ 27 := by
      have e2 : (2 : Nat) ^ 27 = 134217728 := by decide
      omega
    ((repeat' ((fail_if_success (with_reducible show wpAny _ _ (call (Value.ref 28) _) _ _ _)); (first | ((with_reducible show wpAny _ _ (binaryOp Operator.LShift _ _) _ _ _); refine shl_nn (Nat.lt_trans hrb hbn) hsh ?_) | ((with_reducible show wpAny _ _ (binaryOp Operator.Add (Value.int (Nat.cast _) _) (Value.int (Nat.cast _) _)) _ _ _); refine add_nn ?_) | (k_unfold; (try dsimp only)) | ((with_reducible first | show wpAny _ _ (exec _ _) _ _ _ | show wpAny _ _ (execs _ _) _ _ _); k_fold) | (k_end; wrow_close) | walk1 | (dsimp only; walk1) | (leave1; (try dsimp only))))) <;> (repeat (k_unfold; (try dsimp only))))
    rename Fr _ _ _ _ => F8
    rename News _ _ _ _ => N8
    have hx : topD n len a i % b * 2 ^ n + dig n a (len - 1 - i) < 2 ^ 4000 := by
      have h1 : dig n a (len - 1 - i) < 2 ^ n := Nat.mod_lt _ (Nat.two_pow_pos _)
      have h2 : (topD n len a i % b + 1) * 2 ^ n ≤ 2 ^ n * 2 ^ n := Nat.mul_le_mul_right _ (by omega)
      rw [Nat.add_mul, Nat.one_mul, ← Nat.pow_add] at h2
      have h3 : 2 ^ (n + n) ≤ 2 ^ 4000 := Nat.pow_le_pow_right (by omega) (by omega)
      omega
    have hb4 : b < 2 ^ 4000 := Nat.lt_of_lt_of_le hbn (Nat.pow_le_pow_right (by omega) (by omega))
    refine use_g (div2n1n_c w _ b n _ _ _ hb hx hb4) (oth := _) B F8 X N8 T rfl rfl (fun p hp => nomatch hp) (fun p hp => hp) (fun p hp q hq => nomatch hq) (by k_room) (by k_units) ?_
    rintro v2 blk2 h7 tk7 F9 N9 ne9 - ⟨T9, rfl, tq9, tr9, rfl⟩
    rw [(qdig hb hi2).1, (qdig hb hi2).2] at N9
    simp only [List.cons_append, List.nil_append] at N9
    clear F8 N8
    try clear N7
    have hT9 : T9 ≠ Dq := ne9 _ (.head _) (Dq, _) (.head _)
    have hIDq : Dq ≠ I := Nat.ne_of_lt l8.1
    have hall : ∀ p ∈ T3' ++ T4 ++ [(I, oI)], p.1 ≠ Dq := fun p hp => by
      rcases List.mem_append.mp hp with hp | hp
      · exact hDq p hp
      · rw [List.mem_singleton.mp hp]; exact hIDq.symm
    (try dsimp only)
    ((repeat' ((fail_if_success (with_reducible show Left _)); (first | (k_unfold; (try dsimp only)) | ((with_reducible first | show wpAny _ _ (exec _ _) _ _ _ | show wpAny _ _ (execs _ _) _ _ _); k_fold) | (k_end; wrow_close) | walk1 | (dsimp only; walk1) | (leave1; (try dsimp only))))) <;> (repeat (k_unfold; (try dsimp only))))
    (try dsimp only)
    unfold Left
    rename Fr _ _ _ _ => F9
    rename News _ _ _ _ => N9
    simp only [List.push_toArray] at N9
    refine ⟨_, _, _, (Dq, listOf (vq ++ [Value.int ((dig n (a / b) (len - 1 - i) : Nat) : Int) tq9]).toArray (kq + 1)) :: (D, listOf vals.toArray kd) :: (T3' ++ T4), rfl, F9, fun p hp => N9 p (.tail _ hp), ?_, ?_⟩
    · exact List.forall_mem_cons.mpr ⟨hIDq, List.forall_mem_cons.mpr ⟨Nat.ne_of_lt l8.2.1, fun p hp => Nat.ne_of_lt (allLt_mem l8.2.2 p hp)⟩⟩
    · refine' ⟨_, _, _, _, _, _, _, _, by rw [qTo_succ]; exact ints_app hvq (.cons _ _ .nil), fun p hp => hp, ?meq⟩
      case meq => (intro y; unfold pm; (rcases Classical.em (y = "a_digit") with rfl | h0); exact rfl; (rcases Classical.em (y = "q_digit") with rfl | h1); exact rfl; (rcases Classical.em (y = "r") with rfl | h2); exact rfl; (rcases Classical.em (y = "q_digits") with rfl | h3); exact rfl; (rcases Classical.em (y = "a_digits") with rfl | h4); exact rfl; (rcases Classical.em (y = "n") with rfl | h5); exact rfl; (rcases Classical.em (y = "a") with rfl | h6); exact rfl; (rcases Classical.em (y = "b") with rfl | h7); exact rfl; (try simp only [if_neg h0, if_neg h1, if_neg h2, if_neg h3, if_neg h4, if_neg h5, if_neg h6, if_neg h7]); (first | done | exact rfl | (show List.lookup y (_ :: _) = none; simp only [List.lookup, beq_eq_false_iff_ne.mpr h0, beq_eq_false_iff_ne.mpr h1, beq_eq_false_iff_ne.mpr h2, beq_eq_false_iff_ne.mpr h3, beq_eq_false_iff_ne.mpr h4, beq_eq_false_iff_ne.mpr h5, beq_eq_false_iff_ne.mpr h6, beq_eq_false_iff_ne.mpr h7]) | (simp only [List.lookup, beq_eq_false_iff_ne.mpr h0, beq_eq_false_iff_ne.mpr h1, beq_eq_false_iff_ne.mpr h2, beq_eq_false_iff_ne.mpr h3, beq_eq_false_iff_ne.mpr h4, beq_eq_false_iff_ne.mpr h5, beq_eq_false_iff_ne.mpr h6, beq_eq_false_iff_ne.mpr h7]; done)))
  case done =>
    intro m₁ news₁ h6 tk6 hJ F6 N6
    obtain ⟨vq, kq, dv, qv, ta, tb, tn, tr, hvq, hsub, hm⟩ := hJ
    have hszl : vals.toArray.size = len := by simp [hvl]
    rw [hszl] at hvq hm
    have N7 := cb_drop N6 hsub
    have F7 := Fr.congr F6 hm
    try clear F5 N5 N6 F6
    unfold pm at F7
    rw [topD_all] at F7
    (try dsimp only)
    have hlq : vq.length ≤ 60 := by rw [hvq.length]; simp [qTo]; omega
    ((repeat' ((fail_if_success (with_reducible show wpAny _ _ (call (Value.builtin "list.reverse") _) _ _ _)); (first | (k_unfold; (try dsimp only)) | ((with_reducible first | show wpAny _ _ (exec _ _) _ _ _ | show wpAny _ _ (execs _ _) _ _ _); k_fold) | (k_end; wrow_close) | walk1 | (dsimp only; walk1) | (leave1; (try dsimp only))))) <;> (repeat (k_unfold; (try dsimp only))))
    rename Fr _ _ _ _ => F8
    rename News _ _ _ _ => N8
    have hall : ∀ p ∈ (D, listOf vals.toArray kd) :: (T3' ++ T4), p.1 ≠ Dq := List.forall_mem_cons.mpr ⟨hDDq, hDq⟩
    refine kl_reverse (its := vq.toArray) (l := vq.reverse) F8 N8 (by simp) (Upd.head hall) (by rw [sizeLine_eq]; simp; omega) ?_
    intro h9 F9 N9
    clear F8 N8
    have hvr : IntsAre vq.reverse (digsOf n len (a / b)) := by rw [← qTo_rev]; exact ints_rev hvq
    (try dsimp only)
    ((repeat' ((fail_if_success (with_reducible show wpAny _ _ (call (Value.ref 49) _) _ _ _)); (first | (k_unfold; (try dsimp only)) | ((with_reducible first | show wpAny _ _ (exec _ _) _ _ _ | show wpAny _ _ (execs _ _) _ _ _); k_fold) | (k_end; wrow_close) | walk1 | (dsimp only; walk1) | (leave1; (try dsimp only))))) <;> (repeat (k_unfold; (try dsimp only))))
    rename Fr _ _ _ _ => F8
    rename News _ _ _ _ => N8
    have hDqT : ∀ p ∈ T4, Dq ≠ p.1 := fun p hp => (hDq p (List.mem_append_right _ hp)).symm
    have hqa : a / b < 2 ^ (n * len) := Nat.lt_of_le_of_lt (Nat.div_le_self _ _) b1
    refine use_g (digits2int_c w Dq vq.reverse (digsOf n len (a / b)) kq n len (fun i => dig n (a / b) i) _ T4 S4 hDqT hn0 (by omega) hvr (by simp [digsOf]) hl60 (fun i => Nat.mod_lt _ (Nat.two_pow_pos _)) (fun i => digsOf_getD i hqa)) (oth := (D, listOf vals.toArray kd) :: T3') B F8 X N8 T rfl rfl ?_ ?_ ?_ (by k_room) (by k_units) ?_
    · exact List.forall_mem_cons.mpr ⟨.head _, fun p hp => .tail _ (.tail _ (List.mem_append_right _ hp))⟩
    · exact List.forall_mem_cons.mpr ⟨.tail _ (.head _), fun p hp => .tail _ (.tail _ (List.mem_append_left _ hp))⟩
    · refine List.forall_mem_cons.mpr ⟨List.forall_mem_cons.mpr ⟨hDDq, fun q hq => ne2 _ (.head _) q hq⟩, fun p hp => List.forall_mem_cons.mpr ⟨hDq p (List.mem_append_left _ hp), fun q hq => ne2 p (.tail _ hp) q hq⟩⟩
    rintro v3 T4' h10 tk10 F10 N10 - - ⟨⟨t10, rfl⟩, S4'⟩
    have hval : hv n (fun i => dig n (a / b) i) 0 len = a / b := by rw [hv_dig, Nat.mul_zero, Nat.pow_zero, Nat.div_one, Nat.mod_eq_of_lt hqa]
    rw [hval]
    replace N10 : News g L' h10 ((D, listOf vals.toArray kd) :: (T3' ++ T4')) := fun p hp => by
      rcases List.mem_cons.mp hp with rfl | hp
      · exact N10 _ (List.mem_append_right _ (.head _))
      · rcases List.mem_append.mp hp with hp | hp
        · exact N10 _ (List.mem_append_right _ (.tail _ hp))
        · exact N10 _ (List.mem_append_left _ hp)
    try clear F8 N8
    try clear F9 N9
    (try dsimp only)
    ((repeat' (first | (k_unfold; (try dsimp only)) | ((with_reducible first | show wpAny _ _ (exec _ _) _ _ _ | show wpAny _ _ (execs _ _) _ _ _); k_fold) | (k_end; wrow_close) | walk1 | (dsimp only; walk1) | (leave1; (try dsimp only)))) <;> (repeat (k_unfold; (try dsimp only))))
    (try dsimp only)
    rename Fr _ _ _ _ => F9
    rename News _ _ _ _ => N9
    refine (pair_post N9 (.head _) (fun p hp => .tail _ (.tail _ hp)) S3' S4').elim (fun sel9 H9 => ret _ sel9 _ _ F9.keep H9.1 H9.2)
theorem Con.monoDU {w : World} {D U D' U' : Nat} {f : Addr} {args : List Value} {sel : List (Addr × Obj)} {Post : Nat → Value → List (Addr × Obj) → Prop} (C : Con w D U f args sel Post) (h1 : D ≤ D') (h2 : U ≤ U') : Con w D' U' f args sel Post :=
  fun dp un gd outer base g tp tl mean mg mb s R a1 a2 a3 a4 a5 a6 a7 a8 ret => C dp un gd outer base g tp tl mean mg mb s R a1 a2 a3 a4 a5 a6 (by omega) (by omega) ret
theorem bits59 {a n : Nat} (ha : a < 2 ^ 59) (hn : 0 < n) : (Builtin.Int.intBits (a : Int) + n - 1) / n ≤ 60 := by
  have h1 := bits_lt ha
  have h2 : (Builtin.Int.intBits (a : Int) + n - 1) / n ≤ (60 * n) / n := Nat.div_le_div_right (by
    have : 59 * 1 ≤ 59 * n := Nat.mul_le_mul_left _ hn
    omega)
  rw [Nat.mul_div_cancel _ hn] at h2
  exact h2
theorem dm_nonneg (w : World) (a b : Nat) (ta tb : Tok) (T3 T4 : List (Addr × Obj)) (S3 : TabSt 37 35 4 "_int2digits.<locals>.inner" T3) (S4 : TabSt 44 50 4 "_digits2int.<locals>.inner" T4) (hb : 0 < b) (ha : a < 2 ^ 59) (hb2 : b < 2 ^ 59) :
    Con w 95 640 63 [.int a ta, .int b tb] (T3 ++ T4) (fun _ v blk => PairTabs v ((a / b : Nat) : Int) ((a % b : Nat) : Int) blk) := by
  have hbb := bits_lt hb2
  have hb0 : 0 < Builtin.Int.intBits (b : Int) := by
    have := lt_bits b
    rcases Nat.eq_zero_or_pos (Builtin.Int.intBits (b : Int)) with h | h
    · rw [h] at this; omega
    · exact h
  unfold Con
  k_fill
  intro dp un gd outer base g tp tl mean mg mb s R B hg hsz hsel X T hd hu ret
  refine' enter_g B hg hsz hsel X T ?k6 ?k7 ?k8 ?k9 ?kB ?_ ?c2 ?c3 ?c4 ?c5
  (case k6 => k_is); (case k7 => k_is); (case k8 => ktr_room); (case k9 => exact BindsTo.of_eq rfl); (case c5 => decide); (case kB => exact locs rfl); (case c2 => exact rfl); (case c3 => exact rfl); (case c4 => exact rfl)
  k_whole
  intro L' h' tk' F' N' l1
  (try dsimp only); (try k_fold)
  ((repeat' ((fail_if_success (with_reducible show wpAny _ _ (call (Value.ref 56) _) _ _ _)); (first | (k_unfold; (try dsimp only)) | ((with_reducible first | show wpAny _ _ (exec _ _) _ _ _ | show wpAny _ _ (execs _ _) _ _ _); k_fold) | (k_end; wrow_close) | walk1 | (dsimp only; walk1) | (leave1; (try dsimp only))))) <;> (repeat (k_unfold; (try dsimp only))))
  · exact absurd (by assumption : (b : Int) = 0) (by omega)
  rename Fr _ _ _ _ => F1
  rename News _ _ _ _ => N1
  refine use_g (divmod_pos_c w a b _ _ _ _ T3 T4 S3 S4 hb rfl (by omega) (Nat.lt_of_lt_of_le ha (Nat.pow_le_pow_right (by omega) (by omega))) rfl (bits59 ha hb0)) (oth := []) B F1 X N1 T rfl rfl (fun p hp => hp) (fun p hp => nomatch hp) (fun p hp => nomatch hp) (by k_room) (by k_units) ?_
  rintro v2 blk2 h2 tk2 F2 N2 - - H2
  rw [List.append_nil] at N2
  (try dsimp only)
  ((repeat' (first | (k_unfold; (try dsimp only)) | ((with_reducible first | show wpAny _ _ (exec _ _) _ _ _ | show wpAny _ _ (execs _ _) _ _ _); k_fold) | (k_end; wrow_close) | walk1 | (dsimp only; walk1) | (leave1; (try dsimp only)))) <;> (repeat (k_unfold; (try dsimp only))))
  (try dsimp only)
  exact ret _ _ _ _ F2.keep (fun r hr => ⟨(N2 r hr).1, (N2 r hr).2.2⟩) H2
theorem dm_neg (w : World) (a b : Nat) (ta tb : Tok) (T3 T4 : List (Addr × Obj)) (S3 : TabSt 37 35 4 "_int2digits.<locals>.inner" T3) (S4 : TabSt 44 50 4 "_digits2int.<locals>.inner" T4) (hb : 0 < b) (ha : a < 2 ^ 59) (hb2 : b < 2 ^ 59) :
    Con w 100 660 63 [.int (-(a : Int) - 1) ta, .int b tb] (T3 ++ T4) (fun _ v blk => PairTabs v (-((a / b : Nat) : Int) - 1) (b - 1 - ((a % b : Nat) : Int)) blk) := by
  unfold Con
  k_fill
  intro dp un gd outer base g tp tl mean mg mb s R B hg hsz hsel X T hd hu ret
  refine' enter_g B hg hsz hsel X T ?k6 ?k7 ?k8 ?k9 ?kB ?_ ?c2 ?c3 ?c4 ?c5
  (case k6 => k_is); (case k7 => k_is); (case k8 => ktr_room); (case k9 => exact BindsTo.of_eq rfl); (case c5 => decide); (case kB => exact locs rfl); (case c2 => exact rfl); (case c3 => exact rfl); (case c4 => exact rfl)
  k_whole
  intro L' h' tk' F' N' l1
  (try dsimp only); (try k_fold)
  ((repeat' ((fail_if_success (with_reducible show wpAny _ _ (call (Value.ref 63) _) _ _ _)); (first | (k_unfold; (try dsimp only)) | ((with_reducible first | show wpAny _ _ (exec _ _) _ _ _ | show wpAny _ _ (execs _ _) _ _ _); k_fold) | (k_end; wrow_close) | walk1 | (dsimp only; walk1) | (leave1; (try dsimp only))))) <;> (repeat (k_unfold; (try dsimp only))))
  · exact absurd (by assumption : (b : Int) = 0) (by omega)
  rename Fr _ _ _ _ => F1
  rename News _ _ _ _ => N1
  rw [show Builtin.bitNot (-(a : Int) - 1) = (a : Int) from by unfold Builtin.bitNot; omega]
  refine use_g (dm_nonneg w a b _ _ T3 T4 S3 S4 hb ha hb2) (oth := []) B F1 X N1 T rfl rfl (fun p hp => hp) (fun p hp => nomatch hp) (fun p hp => nomatch hp) (by k_room) (by k_units) ?_
  rintro v2 blk2 h2 tk2 F2 N2 - - ⟨T9, T3', T4', tq9, tr9, rfl, S3', S4', rfl⟩
  simp only [List.cons_append, List.append_nil] at N2
  clear F1 N1
  (try dsimp only)
  ((repeat' (first | (k_unfold; (try dsimp only)) | ((with_reducible first | show wpAny _ _ (exec _ _) _ _ _ | show wpAny _ _ (execs _ _) _ _ _); k_fold) | (k_end; wrow_close) | walk1 | (dsimp only; walk1) | (leave1; (try dsimp only)))) <;> (repeat (k_unfold; (try dsimp only))))
  (try dsimp only)
  rename Fr _ _ _ _ => F9
  rename News _ _ _ _ => N9
  rw [show Builtin.bitNot ((a / b : Nat) : Int) = -((a / b : Nat) : Int) - 1 from rfl, show (b : Int) + Builtin.bitNot ((a % b : Nat) : Int) = b - 1 - ((a % b : Nat) : Int) from by unfold Builtin.bitNot; omega] at N9
  refine (pair_post N9 (.head _) (fun p hp => .tail _ (.tail _ hp)) S3' S4').elim (fun sel9 H9 => ret _ sel9 _ _ F9.keep H9.1 H9.2)
theorem int_divmod_c (w : World) (a b : Int) (ta tb : Tok) (T3 T4 : List (Addr × Obj)) (S3 : TabSt 37 35 4 "_int2digits.<locals>.inner" T3) (S4 : TabSt 44 50 4 "_digits2int.<locals>.inner" T4) (hb : 0 < b) (ha : a.natAbs < 2 ^ 59) (hb2 : b.natAbs < 2 ^ 59) :
    Con w 100 660 63 [.int a ta, .int b tb] (T3 ++ T4) (fun _ v blk => PairTabs v (a / b) (a % b) blk) := by
  obtain ⟨b, rfl⟩ := Int.eq_ofNat_of_zero_le (Int.le_of_lt hb)
  rcases Int.lt_or_le a 0 with h | h
  · obtain ⟨m, rfl⟩ : ∃ m : Nat, a = -(m : Int) - 1 := ⟨(-a - 1).toNat, by omega⟩
    have hb' : 0 < b := by omega
    have h1 := Nat.div_add_mod m b
    have h2 := Nat.mod_lt m hb'
    have h3 : (b : Int) * ((m / b : Nat) : Int) + ((m % b : Nat) : Int) = m := by exact_mod_cast h1
    obtain ⟨e1, e2⟩ := (Int.ediv_emod_unique (a := -(m : Int) - 1) (b := (b : Int)) (q := -((m / b : Nat) : Int) - 1) (r := b - 1 - ((m % b : Nat) : Int)) (by omega)).mpr
      ⟨by rw [Int.mul_sub, Int.mul_neg, Int.mul_one]; omega, by omega, by omega⟩
    rw [e1, e2]
    refine Con.monoDU (dm_neg w m b ta tb T3 T4 S3 S4 hb' (by omega) (by simpa using hb2)) (Nat.le_refl _) (Nat.le_refl _)
  · obtain ⟨m, rfl⟩ := Int.eq_ofNat_of_zero_le h
    refine Con.monoDU (dm_nonneg w m b ta tb T3 T4 S3 S4 (by omega) (by simpa using ha) (by simpa using hb2)) (by omega) (by omega)
/-- a contract over a frame heap that has the property P -/
noncomputable def ConP (P : Heap → Prop) (w : World) (D U : Nat) (f : Addr) (args : List Value) (sel : List (Addr × Obj)) (Post : Nat → Value → List (Addr × Obj) → Prop) : Prop :=
  ∀ (dp un : Nat) (gd : Option (List Code)) (outer : List Env) (base g : Heap) (tp : Program) (tl : List Str) (mean : ExcName → Option Value) (mg mb : Str → Option Value) (s : Shared) (R : Result → Shared → Prop), P g →
    Below (Ar dp un gd outer) base outer g → g.StaysIn s.heap → g.objs.size ≤ s.heap.objs.size → (∀ p ∈ sel, s.heap.get? p.1 = some p.2 ∧ g.get? p.1 = none) → (hd.heap_1 w.params).In g → Top tp tl mean mg mb g →
    dp + D < recursionLimit → un + U < cLine →
    (∀ v sel' h' tk', g.StaysIn h' → (∀ p ∈ sel', h'.get? p.1 = some p.2 ∧ g.get? p.1 = none) → Post s.heap.objs.size v sel' → R (.ok (.ret v)) { s with heap := h', toks := tk' }) →
    codeAny (model Challenge.rw_pe0259_01.row.prog w) (Ar dp un gd outer) (.call (.ref f) ⟨args, []⟩) R s
theorem use_gP {P : Heap → Prop} {w : World} {D U : Nat} {f : Addr} {args : List Value} {sel news oth : List (Addr × Obj)} {Post : Nat → Value → List (Addr × Obj) → Prop}
    (C : ConP P w D U f args sel Post)
    {dp un : Nat} {gd : Option (List Code)} {env : Env} {outer : List Env} {A₀ : Around} {base h₀ : Heap} {L : Addr} {m : Str → Option Value} {tp : Program} {tl : List Str} {mean : ExcName → Option Value} {mg mb : Str → Option Value} {s : Shared} {Q E : Value → Shared → Prop}
    (hP : P h₀) (hPk : ∀ h h' : Heap, h.StaysIn h' → P h → P h')
    (B : Below A₀ base outer h₀) (F : Fr h₀ L s.heap m) (X : (hd.heap_1 w.params).In h₀) (N : News h₀ L s.heap news) (T : Top tp tl mean mg mb h₀) (hf : env.frame = some L) (hke : env.scope.kind = .function)
    (hsel : ∀ p ∈ sel, p ∈ news) (hoth1 : ∀ p ∈ oth, p ∈ news) (hoth2 : ∀ p ∈ oth, ∀ q ∈ sel, p.1 ≠ q.1)
    (hd : dp + D < recursionLimit) (hu : un + U < cLine)
    (ret : ∀ v sel' h' tk', Fr h₀ L h' m → News h₀ L h' (sel' ++ oth) → (∀ p ∈ sel', ∀ q ∈ oth, p.1 ≠ q.1) → (∀ p ∈ news, p.1 < s.heap.objs.size) → Post s.heap.objs.size v sel' → Q v { s with heap := h', toks := tk' }) :
    wpAny (model Challenge.rw_pe0259_01.row.prog w) (Ar dp un gd (env :: outer)) (call (.ref f) args) Q E s := by
  have hoth : ∀ p ∈ oth, p ∈ news ∧ p.1 ∉ sel.map Prod.fst := fun p hp => ⟨hoth1 p hp, fun q => by
    obtain ⟨r, hr, e⟩ := List.mem_map.mp q
    exact hoth2 p hp r hr e.symm⟩
  have nm : ∀ b o, h₀.get? b = some o → b ∉ sel.map Prod.fst := fun b o e q => by
    obtain ⟨p, hp, rfl⟩ := List.mem_map.mp q
    rw [(N p (hsel p hp)).2.2] at e; cases e
  have st : h₀.StaysIn (hideAll s.heap (sel.map Prod.fst)) := fun b o e => hideAll_get _ (F.keep b o e) (nm b o e)
  obtain ⟨oL, es, ep, hL, hLd, hLk, hLf⟩ := F.ns
  have nL : L ∉ sel.map Prod.fst := fun q => by
    obtain ⟨p, hp, e⟩ := List.mem_map.mp q
    exact (N p (hsel p hp)).2.1 e
  have hLg := hideAll_get (sel.map Prod.fst) hL nL
  have B₁ := pushX B F hf hke
  have B₂ : Below (Ar dp un gd (env :: outer)) base (env :: outer) (hideAll s.heap (sel.map Prod.fst)) := by
    refine ⟨rfl, fun b o e => st b o (B.stays b o e), funFrames_hideAll B₁.frames fun env' he b hb hf' => ?_⟩
    cases he with
    | head => exact nL ((Option.some.inj (hf.symm.trans hf') : L = b) ▸ hb)
    | tail _ he =>
      obtain ⟨L₁, o₁, hf₁, ho₁⟩ := funFrames_in B.frames env' he
      rw [hf₁] at hf'
      exact nm L₁ o₁ ho₁ ((Option.some.inj hf' : L₁ = b) ▸ hb)
  refine wpAny_call (C dp un gd (env :: outer) base (hideAll s.heap (sel.map Prod.fst)) tp tl mean mg mb s _ (hPk _ _ st hP) B₂ (fun b o e => of_hideAll _ e) (Nat.le_of_eq (hideAll_size _ _))
    (fun p hp => ⟨(N p (hsel p hp)).1, hideAll_none _ (List.mem_map_of_mem hp)⟩) (X.keeps st) (T.keeps st) hd hu fun v sel' h' tk' k1 k2 k3 => ?_)
  have hgo : ∀ p ∈ oth, (hideAll s.heap (sel.map Prod.fst)).get? p.1 = some p.2 := fun p hp => hideAll_get _ (N p (hoth p hp).1).1 (hoth p hp).2
  refine ret v sel' h' tk' ⟨⟨oL, es, ep, k1 L oL hLg, hLd, hLk, hLf⟩, fun b o e => k1 b o (st b o e), F.above⟩ (fun p hp => ?_) (fun p hp q hq e => ?_) (fun p hp => Heap.lt_size (N p hp).1) k3
  · rcases List.mem_append.mp hp with hp | hp
    · refine ⟨(k2 p hp).1, fun q => ?_, ?_⟩
      · have := (k2 p hp).2; rw [q, hLg] at this; cases this
      · cases q : h₀.get? p.1 with
        | none => rfl
        | some o => have := (k2 p hp).2; rw [st _ _ q] at this; cases this
    · exact ⟨k1 _ _ (hgo p hp), (N p (hoth p hp).1).2⟩
  · have := (k2 p hp).2
    rw [e, hgo q hq] at this; cases this
/-- three ints within b of nought -/
noncomputable def Three (b : Int) (ts : List Int) : Prop := ts.length = 3 ∧ ∀ j, -b ≤ ts.getD j 0 ∧ ts.getD j 0 ≤ b
noncomputable def ThreeAt (v : Value) (blk : List (Addr × Obj)) : Prop := ∃ D vs k ts, v = .ref D ∧ blk = [(D, listOf vs.toArray k)] ∧ IntsAre vs ts ∧ Three 2000 ts
theorem three_set {ts : List Int} {i k n : Nat} {x : Int} (h : Three (4 + 61 * (i : Int)) ts) (_hi : i < n) (hx : -(4 + 61 * ((i + 1 : Nat) : Int)) ≤ x ∧ x ≤ 4 + 61 * ((i + 1 : Nat) : Int)) : Three (4 + 61 * ((i + 1 : Nat) : Int)) (ts.set k x) := by
  refine ⟨by simp [h.1], fun j => ?_⟩
  rw [List.getD_eq_getElem?_getD, List.getElem?_set]
  have h2 := h.2 j
  rw [List.getD_eq_getElem?_getD] at h2
  by_cases hk : k = j
  · rw [if_pos hk]
    split
    · exact hx
    · simp; omega
  · rw [if_neg hk]
    omega
/-- the locals of _law_totals -/
noncomputable def tm (sc D : Addr) (kv : Option Value) : Str → Option Value := fun y => if y = "k" then kv else if y = "totals" then some (.ref D) else if y = "script" then some (.ref sc) else none
theorem three_end {g h : Heap} {L D : Addr} {news : List (Addr × Obj)} {vs : List Value} {k : Nat} {ts : List Int} {b : Int} (N : News g L h news) (m1 : (D, listOf vs.toArray k) ∈ news) (hi : IntsAre vs ts) (h3 : Three b ts) (hb : b ≤ 2000) :
    ∃ sel', (∀ p ∈ sel', h.get? p.1 = some p.2 ∧ g.get? p.1 = none) ∧ ThreeAt (.ref D) sel' :=
  ⟨_, List.forall_mem_cons.mpr ⟨⟨(N _ m1).1, (N _ m1).2.2⟩, List.forall_mem_nil _⟩, D, vs, k, ts, rfl, rfl, hi, h3.1, fun j => ⟨by have := (h3.2 j).1; omega, by have := (h3.2 j).2; omega⟩⟩
theorem totals_c (w : World) (sc : Addr) (vs : List Value) (ns : List Int) (hi : IntsAre vs ns) (hl : ns.length ≤ 63) :
    ConP (fun g => g.IsList sc vs.toArray) w 10 100 185 [.ref sc] [] (fun _ v blk => ThreeAt v blk) := by
  have hlv := hi.length
  unfold ConP
  k_fill
  intro dp un gd outer base g tp tl mean mg mb s R hP B hg hsz hsel X T hd hu ret
  refine' enter_g B hg hsz hsel X T ?k6 ?k7 ?k8 ?k9 ?kB ?_ ?c2 ?c3 ?c4 ?c5
  (case k6 => k_is); (case k7 => k_is); (case k8 => ktr_room); (case k9 => exact BindsTo.of_eq rfl); (case c5 => decide); (case kB => exact locs rfl); (case c2 => exact rfl); (case c3 => exact rfl); (case c4 => exact rfl)
  k_whole
  intro L' h' tk' F' N' l1
  (try dsimp only); (try k_fold)
  ((repeat' ((fail_if_success (with_reducible show wpAny _ _ (exec (Stmt.For _ _ _ _ _) _) _ _ _)); (first | (k_unfold; (try dsimp only)) | ((with_reducible first | show wpAny _ _ (exec _ _) _ _ _ | show wpAny _ _ (execs _ _) _ _ _); k_fold) | (k_end; wrow_close) | walk1 | (dsimp only; walk1) | (leave1; (try dsimp only))))) <;> (repeat (k_unfold; (try dsimp only))))
  rename Fr _ _ _ _ => F4
  rename News _ _ _ _ => N4
  refine wpAny_For ?_
  ((repeat' ((fail_if_success (with_reducible show wpAny _ _ (pyIter _) _ _ _)); (first | (k_unfold; (try dsimp only)) | ((with_reducible first | show wpAny _ _ (exec _ _) _ _ _ | show wpAny _ _ (execs _ _) _ _ _); k_fold) | (k_end; wrow_close) | walk1 | (dsimp only; walk1) | (leave1; (try dsimp only))))) <;> (repeat (k_unfold; (try dsimp only))))
  rename Fr _ _ _ _ => F5
  rename News _ _ _ _ => N5
  rename IsRange _ _ _ _ _ _ _ _ => R5
  rename (_ < _) => l9
  rename_i Dt _ _ _ Ds _ _ _ _ _ _ _ _ _ _ _ _ _
  refine' for_range (env := envOf _ _ L' 185 _) (n := (List.take 18 ns).length) rfl R5 ?hsm ?hn rfl rfl rfl F5 N5
    (fun i m news => ∃ vt kt ts kv, IntsAre vt ts ∧ Three (4 + 61 * i) ts ∧ (∀ p ∈ [(Dt, listOf (List.toArray vt) kt)], p ∈ news) ∧ ∀ y, m y = tm sc Dt kv y) ?h0 ?turn ?done
  case hsm => exact small_one (by omega) (by omega) (by rw [List.length_take]; omega) (by rw [List.length_take]; omega)
  case hn => rw [rangeSize_nat, Int.sub_zero, Int.toNat_natCast]
  case h0 =>
    refine' ⟨_, _, _, _, .cons _ _ (.cons _ _ (.cons _ _ .nil)), ⟨rfl, ?hbd⟩, ?sub, ?meq⟩
    case sub => exact List.forall_mem_cons.mpr ⟨by k_mem, List.forall_mem_nil _⟩
    case meq => (intro y; unfold tm; (rcases Classical.em (y = "k") with rfl | h0); exact rfl; (rcases Classical.em (y = "totals") with rfl | h1); exact rfl; (rcases Classical.em (y = "script") with rfl | h2); exact rfl; (try simp only [if_neg h0, if_neg h1, if_neg h2]); (first | done | exact rfl | (show List.lookup y (_ :: _) = none; simp only [List.lookup, beq_eq_false_iff_ne.mpr h0, beq_eq_false_iff_ne.mpr h1, beq_eq_false_iff_ne.mpr h2]) | (simp only [List.lookup, beq_eq_false_iff_ne.mpr h0, beq_eq_false_iff_ne.mpr h1, beq_eq_false_iff_ne.mpr h2]; done)))
    case hbd => intro j; rcases j with _ | _ | _ | j <;> simp
  case turn =>
    intro i t2 m₁ news₁ h6 tk6 I oI hi6 hJ hI F6 N6
    obtain ⟨vt, kt, ts, kv, hvt, h3, hsub, hm⟩ := hJ
    have N7 := News.sub_app N6 hsub
    simp only [List.cons_append, List.nil_append] at N7
    have F7 : Fr g L' h6 (tm sc Dt (some (.int (0 + (i : Int)) t2))) := Fr.congr F6 (fun y => by
      (try dsimp only); rw [hm]; unfold tm; split <;> rfl)
    try clear F5 N5 N6 F6
    unfold tm at F7
    (try dsimp only); (try k_fold)
    have hlt := hvt.length
    have hl3 := h3.1
    rw [List.length_take] at hi6
    have hDI : Dt ≠ I := hI _ (hsub _ (.head _))
    ((repeat' ((fail_if_success (with_reducible show Left _)); (first | (k_unfold; (try dsimp only)) | ((with_reducible first | show wpAny _ _ (exec _ _) _ _ _ | show wpAny _ _ (execs _ _) _ _ _); k_fold) | (k_end; wrow_close) | walk1 | (dsimp only; walk1) | (leave1; (try dsimp only))))) <;> (repeat (k_unfold; (try dsimp only))))
    (try dsimp only)
    unfold Left
    rename Fr _ _ _ _ => F9
    rename News _ _ _ _ => N9
    refine ⟨_, _, _, [(Dt, listOf (List.toArray _) _)], rfl, F9, N9, List.forall_mem_cons.mpr ⟨hDI, List.forall_mem_nil _⟩, ?_⟩
    refine' ⟨_, _, _, _, ints_set hvt _, three_set h3 hi6 ?hx, fun p hp => hp, ?meq⟩
    case hx =>
      have e1 : (0 : Int) ≤ ns.getD (0 + (i : Int)).toNat 0 % 61 := by omega
      have e2 : ns.getD (0 + (i : Int)).toNat 0 % 61 < 61 := by omega
      have := (h3.2 ((0 + (i : Int)).fmod 3).toNat)
      rw [Int.fmod_eq_emod_of_nonneg _ (by decide : (0 : Int) ≤ 61)]
      push_cast
      omega
    case meq => (intro y; unfold tm; (rcases Classical.em (y = "k") with rfl | h0); exact rfl; (rcases Classical.em (y = "totals") with rfl | h1); exact rfl; (rcases Classical.em (y = "script") with rfl | h2); exact rfl; (try simp only [if_neg h0, if_neg h1, if_neg h2]); (first | done | exact rfl | (show List.lookup y (_ :: _) = none; simp only [List.lookup, beq_eq_false_iff_ne.mpr h0, beq_eq_false_iff_ne.mpr h1, beq_eq_false_iff_ne.mpr h2]) | (simp only [List.lookup, beq_eq_false_iff_ne.mpr h0, beq_eq_false_iff_ne.mpr h1, beq_eq_false_iff_ne.mpr h2]; done)))
  case done =>
    intro m₁ news₁ h6 tk6 hJ F6 N6
    obtain ⟨vt, kt, ts, kv, hvt, h3, hsub, hm⟩ := hJ
    have N7 := cb_drop N6 hsub
    have F7 := Fr.congr F6 hm
    try clear F5 N5 N6 F6
    unfold tm at F7
    (try dsimp only)
    ((repeat' (first | (k_unfold; (try dsimp only)) | ((with_reducible first | show wpAny _ _ (exec _ _) _ _ _ | show wpAny _ _ (execs _ _) _ _ _); k_fold) | (k_end; wrow_close) | walk1 | (dsimp only; walk1) | (leave1; (try dsimp only)))) <;> (repeat (k_unfold; (try dsimp only))))
    (try dsimp only)
    rename Fr _ _ _ _ => F9
    rename News _ _ _ _ => N9
    have hlen : (List.take 18 ns).length ≤ 18 := by rw [List.length_take]; omega
    refine (three_end N9 (.head _) hvt h3 (by omega)).elim (fun sel9 H9 => ret _ sel9 _ _ F9.keep H9.1 H9.2)
/-- the text of these signs' numbers -/
noncomputable def Tx (cs : List Nat) : Str := ⟨cs.toArray⟩
theorem Tx_app (a b : List Nat) : Tx a ++ Tx b = Tx (a ++ b) := by
  apply Str.ext'
  rw [Str.cps_append]; simp [Tx]
theorem Tx_len (a : List Nat) : (Tx a).length = a.length := by show (Tx a).cps.size = _; simp [Tx]
theorem Tx_inj {a b : List Nat} (h : Tx a = Tx b) : a = b := by
  have := congrArg (fun x : Str => x.cps.toList) h
  simpa [Tx] using this
theorem Tx_of (x : Str) : x = Tx x.cps.toList := by cases x; simp [Tx]
theorem Tx_cps (a : List Nat) : (Tx a).cps.toList = a := by simp [Tx]
theorem foldl_app (l : List (Array Nat)) : ∀ acc : Array Nat, (l.foldl (· ++ ·) acc).toList = acc.toList ++ (l.map Array.toList).flatten := by
  induction l with
  | nil => intro acc; simp
  | cons x l ih => intro acc; rw [List.foldl_cons, ih]; simp
theorem Tx_mul (a : List Nat) (k : Nat) : Txt.mul (Tx a) (k : Int) = Tx ((List.replicate k a).flatten) := by
  unfold Txt.mul
  rcases Nat.eq_zero_or_pos k with rfl | hk
  · rfl
  · rw [if_neg (by omega)]
    split
    · rename_i h
      rcases Bool.or_eq_true _ _ ▸ h with h | h
      · have : k = 1 := by have := eq_of_beq h; omega
        subst this; simp
      · have h0 : a = [] := by
          have := eq_of_beq h
          rw [Tx_len] at this
          exact List.length_eq_zero_iff.mp this
        subst h0; simp
    · apply Str.ext'
      apply Array.toList_inj.mp
      rw [foldl_app]
      simp [Tx]
theorem Tx_mul1 (c k : Nat) : Txt.mul (Tx [c]) (k : Int) = Tx (List.replicate k c) := by
  rw [Tx_mul]
  congr 1
  induction k with
  | zero => rfl
  | succ k ih => rw [List.replicate_succ, List.replicate_succ, List.flatten_cons, ih]; rfl
theorem lit_q : Str.ofString "\"" = Tx [34] := by decide +kernel
theorem lit_b : Str.ofString "\\ " = Tx [92, 32] := by decide +kernel
theorem lit_s : Str.ofString " " = Tx [32] := by decide +kernel
theorem lit_n : Str.ofString "\n" = Tx [10] := by decide +kernel
theorem lit_t : Str.ofString "\t" = Tx [9] := by decide +kernel
theorem lit_qt : Str.ofString "\"\t" = Tx [34, 9] := by decide +kernel
theorem lit_end : Str.ofString "end" = Tx [101, 110, 100] := by decide +kernel
theorem lit_e : Str.ofString "" = Tx [] := by decide +kernel
/-- a word of k blanks as it is written -/
noncomputable def spellL (k : Nat) (m : Int) : List Nat :=
  if m = 0 ∨ k = 0 then 34 :: (List.replicate k 32 ++ [34]) else if m = 1 then (List.replicate k [92, 32]).flatten ++ [10] else 34 :: ((List.replicate k [92, 32]).flatten ++ [34, 9])
noncomputable abbrev blank (k : Nat) : Str := Tx (List.replicate k 32)
theorem str_eq {a b : Str} {t : Tok} (h : a = b) : Value.str a t = Value.str b t := by rw [h]
theorem join_Tx : ∀ xs : List (List Nat), Txt.join (Str.ofString "") (xs.map Tx) = Tx xs.flatten := by
  intro xs
  show Builtin.Str.glued _ _ = _
  rw [StrLaws.glued_eq_join]
  induction xs with
  | nil => rfl
  | cons x r ih =>
    cases r with
    | nil => simp only [List.map_cons, List.map_nil, List.flatten_cons, List.flatten_nil, List.append_nil]; rfl
    | cons y r =>
      rw [List.map_cons, List.map_cons, join_cons_cons, ← List.map_cons, ih, lit_e, Tx_app, Tx_app, List.append_nil]; rfl
theorem flat_le {b : Nat} : ∀ xs : List (List Nat), (∀ x ∈ xs, x.length ≤ b) → xs.flatten.length ≤ b * xs.length
  | [], _ => by simp
  | x :: r, h => by
    have h1 := h x (.head _)
    have h2 := flat_le r fun y hy => h y (.tail _ hy)
    rw [List.flatten_cons, List.length_append, List.length_cons, Nat.mul_add]
    omega
theorem lens_Tx (xs : List (List Nat)) : ((xs.map Tx).map (·.length)).sum = xs.flatten.length := by
  induction xs with
  | nil => rfl
  | cons x r ih => rw [List.map_cons, List.map_cons, List.sum_cons, ih, List.flatten_cons, List.length_append, Tx_len]
section
variable {prog : Program} {w : World} {A : Around} {E : Value → Shared → Prop} {s : Shared} {t : Tok} {Q : Value → Shared → Prop}
theorem join_T {D : Addr} {its : List Value} {ys : List Str} {xs : List (List Nat)} (hl : s.heap.IsList D its.toArray) (hi : StrsAre its ys) (hy : ys = xs.map Tx) (hw : xs.flatten.length + xs.length ≤ 1048576)
    (h : ∀ t' k, Q (.str (Tx xs.flatten) t') { s with toks := k }) : wpAny (model prog w) A (call (.builtin "str.join") [.str (Str.ofString "") t, .ref D]) Q E s := by
  subst hy
  refine join_listW hl (by simpa using hi) (Nat.zero_le _) (by rw [lens_Tx, List.length_map]; exact hw) ?_
  rw [join_Tx]; exact h
end
theorem spell_len {k : Nat} {m : Int} (hk : k < 20) : (spellL k m).length ≤ 50 := by
  have : ((List.replicate k [92, 32]).flatten).length ≤ 2 * k := by
    have := flat_le (b := 2) (List.replicate k [92, 32]) (fun x hx => by rw [(List.mem_replicate.mp hx).2]; decide)
    rwa [List.length_replicate] at this
  unfold spellL
  split
  · simp; omega
  · split
    · simp; omega
    · simp; omega
/-- the words 0 .. n - 1 as they are written, by manners from b on -/
noncomputable def textW (n : Nat) (b : Int) : List (List Nat) := (List.range n).map fun k => spellL k ((b + (k : Int)) % 3)
noncomputable def textL (n : Nat) (b : Int) : List Nat := (textW n b).flatten ++ [101, 110, 100]
theorem textW_len {n : Nat} {b : Int} (hn : n < 20) : (textW n b).flatten.length ≤ 1000 := by
  have := flat_le (b := 50) (textW n b) (fun x hx => by
    obtain ⟨k, hk, rfl⟩ := List.mem_map.mp hx
    exact spell_len (by have := List.mem_range.mp hk; omega))
  unfold textW at this ⊢
  rw [List.length_map, List.length_range] at this
  omega
section
variable {prog : Program} {w : World} {A : Around} {E : Value → Shared → Prop} {s : Shared} {t u : Tok} {Q : Value → Shared → Prop}
theorem add_Tx {a b : List Nat} {y : Str} (hy : y = Tx b) (hs : a.length + b.length ≤ 1000000) (h : ∀ t' k, Q (.str (Tx (a ++ b)) t') { s with toks := k }) : wpAny (model prog w) A (binaryOp .Add (.str (Tx a) t) (.str y u)) Q E s := by
  subst hy
  refine PyProof.Rows.add_str ?_ (by rw [Tx_len, Tx_len, sizeLine_eq]; omega)
  rw [Tx_app]; exact h
end
theorem spelled_c (w : World) (k : Nat) (m : Int) (tk tm : Tok) (hk : k < 1000) (hm : 0 ≤ m) (hm2 : m < 3) :
    Con w 10 100 192 [.int k tk, .int m tm] [] (fun _ v blk => (∃ t, v = .str (Tx (spellL k m)) t) ∧ blk = []) := by
  unfold Con
  k_fill
  intro dp un gd outer base g tp tl mean mg mb s R B hg hsz hsel X T hd hu ret
  refine' enter_g B hg hsz hsel X T ?k6 ?k7 ?k8 ?k9 ?kB ?_ ?c2 ?c3 ?c4 ?c5
  (case k6 => k_is); (case k7 => k_is); (case k8 => ktr_room); (case k9 => exact BindsTo.of_eq rfl); (case c5 => decide); (case kB => exact locs rfl); (case c2 => exact rfl); (case c3 => exact rfl); (case c4 => exact rfl)
  k_whole
  intro L' h' tk' F' N' l1
  (try dsimp only); (try k_fold)
  ((repeat' (first | (k_unfold; (try dsimp only)) | ((with_reducible first | show wpAny _ _ (exec _ _) _ _ _ | show wpAny _ _ (execs _ _) _ _ _); k_fold) | (k_end; wrow_close) | walk1 | (dsimp only; walk1) | (leave1; (try dsimp only)))) <;> (repeat (k_unfold; (try dsimp only))))
  all_goals
    (try dsimp only)
    rename Fr _ _ _ _ => F9
    rename News _ _ _ _ => N9
    refine ret _ _ _ _ F9.keep (fun r hr => ⟨(N9 r hr).1, (N9 r hr).2.2⟩) ⟨⟨_, str_eq ?_⟩, rfl⟩
    simp only [lit_q, lit_b, lit_s, lit_n, lit_qt, Tx_mul, Tx_mul1, Tx_app]
    congr 1
    unfold spellL
  · rw [if_pos (.inl (by assumption))]; simp
  · rw [if_pos (.inr (by omega))]; simp
  · rw [if_neg (by omega), if_pos (by assumption)]
  · rw [if_neg (by omega), if_neg (by assumption)]; simp
theorem turned_c (w : World) (x : Str) (n : Nat) (tx tn : Tok) (hx : x.length < n) (hn : n < 1000) :
    Con w 10 100 211 [.str x tx, .int n tn] [] (fun _ v blk => (∃ t, v = .str (if 2 * x.length < n then x else blank (n - x.length)) t) ∧ blk = []) := by
  unfold Con
  k_fill
  intro dp un gd outer base g tp tl mean mg mb s R B hg hsz hsel X T hd hu ret
  refine' enter_g B hg hsz hsel X T ?k6 ?k7 ?k8 ?k9 ?kB ?_ ?c2 ?c3 ?c4 ?c5
  (case k6 => k_is); (case k7 => k_is); (case k8 => ktr_room); (case k9 => exact BindsTo.of_eq rfl); (case c5 => decide); (case kB => exact locs rfl); (case c2 => exact rfl); (case c3 => exact rfl); (case c4 => exact rfl)
  k_whole
  intro L' h' tk' F' N' l1
  (try dsimp only); (try k_fold)
  ((repeat' (first | (k_unfold; (try dsimp only)) | ((with_reducible first | show wpAny _ _ (exec _ _) _ _ _ | show wpAny _ _ (execs _ _) _ _ _); k_fold) | (k_end; wrow_close) | walk1 | (dsimp only; walk1) | (leave1; (try dsimp only)))) <;> (repeat (k_unfold; (try dsimp only))))
  all_goals
    (try dsimp only)
    rename Fr _ _ _ _ => F9
    rename News _ _ _ _ => N9
    refine ret _ _ _ _ F9.keep (fun r hr => ⟨(N9 r hr).1, (N9 r hr).2.2⟩) ⟨⟨_, str_eq ?_⟩, rfl⟩
  · rw [if_pos (by omega)]
  · rw [if_neg (by omega), lit_s, show (n : Int) - (x.length : Int) = ((n - x.length : Nat) : Int) from by omega, Tx_mul1]
noncomputable abbrev LexA.adrs (a : LexA) : List Addr := [a.x, a.dx, a.pb, a.st, a.std]
section
variable {w : World} {dp un : Nat} {gd : Option (List Code)} {env : Env} {outer : List Env} {A₀ : Around} {base h₀ : Heap} {L : Addr} {m : Str → Option Value} {tp : Program} {tl : List Str} {mean : ExcName → Option Value} {mg mb : Str → Option Value} {s : Shared} {Q E : Value → Shared → Prop}
  {a : LexA} {text : Str} {adr : List Addr} {RO : Nat → List (Addr × Obj) → Prop} {lin : Int} {wsp : Str} {ws : List Str} {p : Nat} {aa blk : List (Addr × Obj)}
theorem off_sel (M : MachSt w a RO lin wsp ws p blk) (Rd : Reader w a.rd text adr RO) (off : ∀ q ∈ aa, q.1 ∉ a.adrs ++ adr) : ∀ q ∈ aa, ∀ r ∈ blk, q.1 ≠ r.1 := fun q hq r hr e => by
  refine off q hq ?_
  show q.1 ∈ [a.x, a.dx, a.pb, a.st, a.std] ++ adr
  rw [← M.adrs Rd, e]
  exact List.mem_map_of_mem hr
theorem mach_push (Rd : Reader w a.rd text adr RO) (O : a.Ok adr) (M : MachSt w a RO lin wsp ws p blk) (off : ∀ q ∈ aa, q.1 ∉ a.adrs ++ adr) {y : Str} {t : Tok} (hlen : ws.length < 10000)
    (B : Below A₀ base outer h₀) (F : Fr h₀ L s.heap m) (X : (hd.heap_1 w.params).In h₀) (N : News h₀ L s.heap (aa ++ blk)) (T : Top tp tl mean mg mb h₀) (hf : env.frame = some L) (hke : env.scope.kind = .function)
    (hd : dp + 10 < recursionLimit) (hu : un + 50 < cLine)
    (ret : ∀ blk' h' tk', Fr h₀ L h' m → News h₀ L h' (aa ++ blk') → MachSt w a RO lin wsp (ws ++ [y]) p blk' → Q .none { s with heap := h', toks := tk' }) :
    wpAny (model Challenge.rw_pe0259_01.row.prog w) (Ar dp un gd (env :: outer)) (call (.ref 98) [.ref a.x, .str y t]) Q E s := by
  refine use_g (push_token_c w a text adr RO Rd O lin wsp ws p blk M y t hlen) (oth := aa) B F X N T hf hke (fun q hq => List.mem_append_right _ hq) (fun q hq => List.mem_append_left _ hq) (off_sel M Rd off) (by omega) (by omega) ?_
  rintro v blk' h' tk' F' N' - - ⟨rfl, M'⟩
  exact ret blk' h' tk' F' (News.swap N') M'
theorem mach_get1 (Rd : Reader w a.rd text adr RO) (O : a.Ok adr) {y : Str} (M : MachSt w a RO lin wsp (y :: ws) p blk) (off : ∀ q ∈ aa, q.1 ∉ a.adrs ++ adr) (hlen : ws.length < 10000)
    (B : Below A₀ base outer h₀) (F : Fr h₀ L s.heap m) (X : (hd.heap_1 w.params).In h₀) (N : News h₀ L s.heap (aa ++ blk)) (T : Top tp tl mean mg mb h₀) (hf : env.frame = some L) (hke : env.scope.kind = .function)
    (hd : dp + 10 < recursionLimit) (hu : un + 50 < cLine)
    (ret : ∀ t blk' h' tk', Fr h₀ L h' m → News h₀ L h' (aa ++ blk') → MachSt w a RO lin wsp ws p blk' → Q (.str y t) { s with heap := h', toks := tk' }) :
    wpAny (model Challenge.rw_pe0259_01.row.prog w) (Ar dp un gd (env :: outer)) (call (.ref 91) [.ref a.x]) Q E s := by
  refine use_g (get_token_1 w a text adr RO Rd O lin wsp y ws p blk M hlen) (oth := aa) B F X N T hf hke (fun q hq => List.mem_append_right _ hq) (fun q hq => List.mem_append_left _ hq) (off_sel M Rd off) (by omega) (by omega) ?_
  rintro v blk' h' tk' F' N' - - ⟨⟨t, rfl⟩, M'⟩
  exact ret t blk' h' tk' F' (News.swap N') M'
theorem mach_get0 (Rd : Reader w a.rd text adr RO) (O : a.Ok adr) {c : Int} (M : MachSt w a RO (c + nlTo text p) wsp [] p blk) (off : ∀ q ∈ aa, q.1 ∉ a.adrs ++ adr) (hp : p ≤ text.length) (hlen : text.length < 100000)
    (B : Below A₀ base outer h₀) (F : Fr h₀ L s.heap m) (X : (hd.heap_1 w.params).In h₀) (N : News h₀ L s.heap (aa ++ blk)) (T : Top tp tl mean mg mb h₀) (hf : env.frame = some L) (hke : env.scope.kind = .function)
    (hd : dp + 25 < recursionLimit) (hu : un + 250 < cLine)
    (ret : ∀ t p' blk' h' tk', p' ≤ text.length → codes text p' = (lex0 wsp (codes text p)).2 → Fr h₀ L h' m → News h₀ L h' (aa ++ blk') → MachSt w a RO (c + nlTo text p') wsp [] p' blk' → Q (.str (lex0 wsp (codes text p)).1 t) { s with heap := h', toks := tk' }) :
    wpAny (model Challenge.rw_pe0259_01.row.prog w) (Ar dp un gd (env :: outer)) (call (.ref 91) [.ref a.x]) Q E s := by
  refine use_g (get_token_0 w a text adr RO Rd O c wsp p blk M hp hlen) (oth := aa) B F X N T hf hke (fun q hq => List.mem_append_right _ hq) (fun q hq => List.mem_append_left _ hq) (off_sel M Rd off) (by omega) (by omega) ?_
  rintro v blk' h' tk' F' N' - - ⟨t, p', rfl, hp', hc', M'⟩
  exact ret t p' blk' h' tk' hp' hc' F' (News.swap N') M'
end
/-- the iterator's cell put between the ledger's head and the machine's block, and taken out again -/
theorem News.ins {h₀ h : Heap} {L : Addr} {aa blk news₁ : List (Addr × Obj)} {i : Addr × Obj} (N : News h₀ L h (news₁ ++ [i])) (hsub : ∀ p ∈ aa ++ blk, p ∈ news₁) : News h₀ L h ((i :: aa) ++ blk) := fun p hp => by
  rcases List.mem_cons.mp hp with rfl | hp
  · exact N _ (List.mem_append_right _ (.head _))
  · exact N p (List.mem_append_left _ (hsub p hp))
theorem News.outs {h₀ h : Heap} {L : Addr} {aa blk : List (Addr × Obj)} {i : Addr × Obj} (N : News h₀ L h ((i :: aa) ++ blk)) : News h₀ L h ((aa ++ blk) ++ [i]) := fun p hp => by
  rcases List.mem_append.mp hp with hp | hp
  · exact N p (.tail _ hp)
  · rw [List.mem_singleton.mp hp]; exact N _ (.head _)
theorem strs_get {vs : List Value} {xs : List Str} (h : StrsAre vs xs) {i : Nat} {v : Value} (hv : vs[i]? = some v) : ∃ t x, xs[i]? = some x ∧ v = .str x t := by
  induction h generalizing i with
  | nil => simp at hv
  | cons a t h ih =>
    cases i with
    | zero => simp at hv; exact ⟨t, a, rfl, hv.symm⟩
    | succ i => simpa using ih (by simpa using hv)
/-- a ring of words, the one at place j in front -/
noncomputable def ringL (ws : List Str) (j : Nat) : List Str := (List.range ws.length).map fun i => ws.getD ((i + j) % ws.length) Str.empty
theorem ringL_zero (ws : List Str) : ringL ws 0 = ws := by
  apply List.ext_getElem
  · simp [ringL]
  · intro i h1 h2
    simp [ringL, Nat.mod_eq_of_lt h2, List.getD_eq_getElem?_getD, h2]
theorem ringL_len (ws : List Str) (j : Nat) : (ringL ws j).length = ws.length := by simp [ringL]
theorem ringL_front {ws : List Str} (hn : 0 < ws.length) (j : Nat) : ∃ r, ringL ws j = ws.getD (j % ws.length) Str.empty :: r ∧ r ++ [ws.getD (j % ws.length) Str.empty] = ringL ws (j + 1) := by
  obtain ⟨k, hk⟩ : ∃ k, ws.length = k + 1 := ⟨ws.length - 1, by omega⟩
  refine ⟨(List.range k).map fun i => ws.getD ((i + 1 + j) % ws.length) Str.empty, ?_, ?_⟩
  · unfold ringL
    rw [hk, List.range_succ_eq_map, List.map_cons, List.map_map]
    simp [Function.comp_def]
  · unfold ringL
    rw [hk, List.range_succ, List.map_append]
    congr 1
    · apply List.map_congr_left
      intro i _
      rw [show i + 1 + j = i + (j + 1) from by omega]
    · simp only [List.map_cons, List.map_nil]
      rw [show k + (j + 1) = j + (k + 1) from by omega, Nat.add_mod_right]
theorem ringL_full {ws : List Str} (m : Nat) : ringL ws (ws.length * m) = ws := by
  have : ringL ws (ws.length * m) = ringL ws 0 := by
    unfold ringL
    apply List.map_congr_left
    intro i _
    rw [Nat.add_mul_mod_self_left, Nat.add_zero]
  rw [this, ringL_zero]
/-- the words noted: every step-th of the ring, as many as there are -/
noncomputable def dealtTo (ws : List Str) (step i : Nat) : List Str := (List.range i).map fun k => ws.getD (k * step % ws.length) Str.empty
theorem dealtTo_succ (ws : List Str) (step i : Nat) : dealtTo ws step (i + 1) = dealtTo ws step i ++ [ws.getD (i * step % ws.length) Str.empty] := by
  unfold dealtTo; rw [List.range_succ, List.map_append]; rfl
open LCg
section
variable {prog : Program} {w : World} {A : Around} {s : Shared} {h₀ : Heap} {L : Addr} {m : Str → Option Value} {env : Env} {elt ct : Expr} {x : Str} {scope : Scope} {cl : List (Str × Addr)} {S : List (Addr × Obj) → Prop} {P : Nat → Value → Prop} {Fin : List Value → List (Addr × Obj) → Prop}
/-- a comprehension by what holds between its turns -/
theorem rest_of (n : Nat) (J : Nat → List Value → List (Addr × Obj) → Prop)
    (turn : ∀ i ys news v I oI C oC D m₂ h tk (E' : Value → Shared → Prop), i < n → J i ys news → P i v → NsObj oC m₂ → m₂ x = some v → Fr h₀ L h m → News h₀ L h ((I, oI) :: (C, oC) :: (D, lst ys) :: news) → Off3 I C D news → ((@Ne Nat I C) ∧ (@Ne Nat I D) ∧ (@Ne Nat C D)) →
      wpAny (model prog w) A (eval elt (compEnvC scope cl C env)) (CompEnd h₀ L m { s with heap := h, toks := tk } I oI C oC D (lst ys) S (fun y news' => J (i + 1) (ys ++ [y]) news')) E' { s with heap := h, toks := tk })
    (done : ∀ ys news, J n ys news → Fin ys news) : ∀ k i ys news, i + k = n → J i ys news → CompRest prog w A h₀ L m env elt x scope cl s S P Fin k i ys news := by
  intro k
  induction k with
  | zero => intro i ys news hi hJ; have : i = n := by omega
            subst this; exact CompRest.zero (done _ _ hJ)
  | succ k ih =>
    intro i ys news hi hJ
    refine CompRest.succ fun v I oI C oC D m₂ h tk E' hP hns hx F N o3 ne => ?_
    refine wpAny_mono (turn i ys news v I oI C oC D m₂ h tk E' (by omega) hJ hP hns hx F N o3 ne) (fun y s₂ z => ?_) fun _ _ e => e
    obtain ⟨h', tk', news', e1, e2, e3, e4, e5, e6⟩ := z
    exact ⟨h', tk', news', e1, e2, e3, e4, e5, ih (i + 1) _ _ (by omega) e6⟩
end
/-- the locals of _law_dealt -/
noncomputable def lm (lr : Addr) (f : Int) (tf : Tok) (wv dv pv tv : Option Value) : Str → Option Value :=
  fun y => if y = "word" then wv else if y = "dealt" then dv else if y = "_place" then pv else if y = "_turn" then tv else if y = "row" then some (.ref lr) else if y = "further" then some (.int f tf) else none
theorem not_adrs {w : World} {a : LexA} {text : Str} {adr : List Addr} {RO : Nat → List (Addr × Obj) → Prop} {lin : Int} {wsp : Str} {ws : List Str} {p : Nat} {blk : List (Addr × Obj)} {z : Addr} (M : MachSt w a RO lin wsp ws p blk) (Rd : Reader w a.rd text adr RO) (h : ∀ r ∈ blk, r.1 ≠ z) : z ∉ a.adrs ++ adr := fun hm => by
  have hm2 : z ∈ [a.x, a.dx, a.pb, a.st, a.std] ++ adr := hm
  rw [← M.adrs Rd] at hm2
  obtain ⟨r, hr, e⟩ := List.mem_map.mp hm2
  exact h r hr e
theorem of_adrs {w : World} {a : LexA} {text : Str} {adr : List Addr} {RO : Nat → List (Addr × Obj) → Prop} {lin : Int} {wsp : Str} {ws : List Str} {p : Nat} {blk : List (Addr × Obj)} {z : Addr} (M : MachSt w a RO lin wsp ws p blk) (Rd : Reader w a.rd text adr RO) (h : z ∉ a.adrs ++ adr) : ∀ r ∈ blk, r.1 ≠ z := fun r hr e => h (by
  show z ∈ [a.x, a.dx, a.pb, a.st, a.std] ++ adr
  rw [← M.adrs Rd, ← e]
  exact List.mem_map_of_mem hr)
/-- the dealt words, a new list; the row and the machine behind it -/
noncomputable def DealtAt (w : World) (a : LexA) (RO : Nat → List (Addr × Obj) → Prop) (lin : Int) (wsp : Str) (p : Nat) (adr : List Addr) (lr : Addr) (lo : Obj) (xs : List Str) (v : Value) (blk' : List (Addr × Obj)) : Prop :=
  ∃ D its k blk, v = .ref D ∧ StrsAre its xs ∧ MachSt w a RO lin wsp [] p blk ∧ D ∉ a.adrs ++ adr ∧ D ≠ lr ∧ blk' = (D, listOf its.toArray k) :: (lr, lo) :: blk
theorem dealt_c (w : World) (a : LexA) (text : Str) (adr : List Addr) (RO : Nat → List (Addr × Obj) → Prop) (Rd : Reader w a.rd text adr RO) (O : a.Ok adr)
    (lin : Int) (wsp : Str) (p : Nat) (blk : List (Addr × Obj)) (M : MachSt w a RO lin wsp [] p blk) (lr : Addr) (items : List Value) (ws : List Str) (kr f : Nat) (tf : Tok) (hst : StrsAre items ws) (hlr : lr ∉ a.adrs ++ adr) (hn : 0 < ws.length) (hn2 : ws.length < 100) (hf : f < 100)
    (hok : ∀ x ∈ ws, PyData.strOk x = true) :
    Con w 40 400 197 [.ref a.x, .ref lr, .int f tf] ((lr, listOf items.toArray kr) :: blk) (fun _ v blk' => DealtAt w a RO lin wsp p adr lr (listOf items.toArray kr) (dealtTo ws (f + 1) ws.length) v blk') := by
  have hil := hst.length
  obtain ⟨lt, tw, k, l, its0, hl, hi0, rfl⟩ := id M
  unfold Con
  k_fill
  intro dp un gd outer base g tp tl mean mg mb s R B hg hsz hsel X T hd hu ret
  refine' enter_gc hg hsz hsel X T ?k6 ?k7 ?k8 ?k9 ?kB ?kD ?_ ?c2 ?c3 ?c4
  (case k6 => k_is); (case k7 => k_is); (case k8 => ktr_room); (case k9 => exact BindsTo.of_eq rfl); (case kB => exact rfl); (case kD => decide +kernel); (case c2 => exact rfl); (case c3 => exact rfl); (case c4 => exact rfl)
  k_whole
  intro L' h' tk' cells' F' N' Y' l1
  have l0 := l1
  (try k_lt l1); k_cells Y'; (try simp only [lexObjs, List.cons_append, List.nil_append] at N')
  have codeHd := codeHd_of_K (c := 41) (P := 37) X (by kernel_rfl)
  (try dsimp only); (try k_fold)
  ((repeat' ((fail_if_success (with_reducible show wpAny _ _ (exec (Stmt.For _ _ _ _ _) _) _ _ _)); (first | (k_unfold; (try dsimp only)) | ((with_reducible first | show wpAny _ _ (exec _ _) _ _ _ | show wpAny _ _ (execs _ _) _ _ _); k_fold) | (k_end; wrow_close) | walk1 | (dsimp only; walk1) | (leave1; (try dsimp only))))) <;> (repeat (k_unfold; (try dsimp only))))
  rename Fr _ _ _ _ => F4
  rename News _ _ _ _ => N4
  have F5 : Fr g L' h' (fun y => if y = "further" then some (.int (f : Int) tf) else if y = "row" then some (.ref lr) else none) := F4
  replace F5 : Fr g L' h' (lm lr f tf none none none none) := Fr.congr F5 (by (intro y; unfold lm; (rcases Classical.em (y = "word") with rfl | h0); exact rfl; (rcases Classical.em (y = "dealt") with rfl | h1); exact rfl; (rcases Classical.em (y = "_place") with rfl | h2); exact rfl; (rcases Classical.em (y = "_turn") with rfl | h3); exact rfl; (rcases Classical.em (y = "row") with rfl | h4); exact rfl; (rcases Classical.em (y = "further") with rfl | h5); exact rfl; (try simp only [if_neg h0, if_neg h1, if_neg h2, if_neg h3, if_neg h4, if_neg h5]); (first | done | exact rfl | (show List.lookup y (_ :: _) = none; simp only [List.lookup, beq_eq_false_iff_ne.mpr h0, beq_eq_false_iff_ne.mpr h1, beq_eq_false_iff_ne.mpr h2, beq_eq_false_iff_ne.mpr h3, beq_eq_false_iff_ne.mpr h4, beq_eq_false_iff_ne.mpr h5]) | (simp only [List.lookup, beq_eq_false_iff_ne.mpr h0, beq_eq_false_iff_ne.mpr h1, beq_eq_false_iff_ne.mpr h2, beq_eq_false_iff_ne.mpr h3, beq_eq_false_iff_ne.mpr h4, beq_eq_false_iff_ne.mpr h5]; done))))
  clear F4
  rename_i oM dM
  have hM : oM.data = .cell (some (.ref a.x)) := dM
  have offM : L' + 1 ∉ a.adrs ++ adr := not_adrs M Rd (fun r hr => Nat.ne_of_lt (Nat.lt_succ_of_lt (l0 r (.tail _ hr))))
  have hlrL : lr ≠ L' + 1 := Nat.ne_of_lt (Nat.lt_succ_of_lt (l0 (lr, _) (.head _)))
  clear l1 dM
  refine wpAny_For ?_
  ((repeat' ((fail_if_success (with_reducible show wpAny _ _ (pyIter _) _ _ _)); (first | (k_unfold; (try dsimp only)) | ((with_reducible first | show wpAny _ _ (exec _ _) _ _ _ | show wpAny _ _ (execs _ _) _ _ _); k_fold) | (k_end; wrow_close) | walk1 | (dsimp only; walk1) | (leave1; (try dsimp only))))) <;> (repeat (k_unfold; (try dsimp only))))
  refine' for_lst (env := envOfC _ _ L' 197 _) (lo := listOf items.toArray kr) (its := items.toArray) rfl rfl ⟨_, rfl⟩ rfl rfl rfl F5 N4
    (fun i m news => ∃ blk wv, MachSt w a RO lin wsp (ws.take i) p blk ∧ (∀ q ∈ [(L' + 1, oM), (lr, listOf items.toArray kr)] ++ blk, q ∈ news) ∧ ∀ y, m y = lm lr f tf wv none none none y) ?hJ ?h0 ?turn ?done
  case hJ => rintro i m nw ⟨blk, wv, h1, h2, h3⟩; exact h2 _ (.tail _ (.head _))
  case h0 => exact ⟨_, none, by simpa using M, fun q hq => hq, fun y => rfl⟩
  case turn =>
    intro i v m₁ news₁ h6 tk6 I oI hv hJ hI F6 N6
    obtain ⟨blk6, wv, M6, hsub, hm⟩ := hJ
    obtain ⟨tx, x, hx, rfl⟩ := strs_get hst (by simpa using hv)
    have N7 := News.ins N6 hsub
    have F7 : Fr g L' h6 (lm lr f tf (some (.str x tx)) none none none) := Fr.congr F6 (fun y => by
      (try dsimp only); rw [hm]; unfold lm; split <;> rfl)
    have hoff : ∀ q ∈ [(I, oI), (L' + 1, oM), (lr, listOf items.toArray kr)], q.1 ∉ a.adrs ++ adr := List.forall_mem_cons.mpr ⟨not_adrs M6 Rd (fun r hr => hI r (hsub _ (List.mem_append_right _ hr))), List.forall_mem_cons.mpr ⟨offM, List.forall_mem_cons.mpr ⟨hlr, List.forall_mem_nil _⟩⟩⟩
    have hIs : ∀ q ∈ [(L' + 1, oM), (lr, listOf items.toArray kr)], q.1 ≠ I := List.forall_mem_cons.mpr ⟨hI _ (hsub _ (.head _)), List.forall_mem_cons.mpr ⟨hI _ (hsub _ (.tail _ (.head _))), List.forall_mem_nil _⟩⟩
    have hxi := (List.getElem?_eq_some_iff.mp hx).1
    try clear F5 N4 N6 F6
    obtain ⟨lt6, tw6, k6, l6, its6, hl6, hi6, rfl⟩ := id M6
    simp only [lexObjs, List.cons_append, List.nil_append] at N7
    unfold lm at F7
    (try dsimp only); (try k_fold)
    ((repeat' ((fail_if_success (with_reducible show wpAny _ _ (call (Value.ref 98) _) _ _ _)); (first | (k_unfold; (try dsimp only)) | ((with_reducible first | show wpAny _ _ (exec _ _) _ _ _ | show wpAny _ _ (execs _ _) _ _ _); k_fold) | (k_end; wrow_close) | walk1 | (dsimp only; walk1) | (leave1; (try dsimp only))))) <;> (repeat (k_unfold; (try dsimp only))))
    rename Fr _ _ _ _ => F8
    rename News _ _ _ _ => N8
    refine mach_push (aa := [(I, oI), (L' + 1, oM), (lr, listOf items.toArray kr)]) Rd O M6 hoff (by simp; omega) B F8 X N8 T rfl rfl (by k_room) (by k_units) ?_
    intro blk9 h9 tk9 F9 N9 M9
    clear F8 N8
    (try dsimp only)
    ((repeat' ((fail_if_success (with_reducible show Left _)); (first | (k_unfold; (try dsimp only)) | ((with_reducible first | show wpAny _ _ (exec _ _) _ _ _ | show wpAny _ _ (execs _ _) _ _ _); k_fold) | (k_end; wrow_close) | walk1 | (dsimp only; walk1) | (leave1; (try dsimp only))))) <;> (repeat (k_unfold; (try dsimp only))))
    (try dsimp only)
    unfold Left
    refine ⟨_, _, _, _, rfl, F9, News.outs (aa := [(L' + 1, oM), (lr, listOf items.toArray kr)]) N9, ?_, blk9, some (.str x tx), ?_, fun q hq => hq, fun y => rfl⟩
    · intro q hq
      rcases List.mem_append.mp hq with hq | hq
      · exact hIs q hq
      · exact of_adrs M9 Rd (hoff _ (.head _)) q hq
    · rw [List.take_add_one, hx]; exact M9
  case done =>
    intro m₁ news₁ h6 tk6 hJ F6 N6
    obtain ⟨blk6, wv, M6, hsub, hm⟩ := hJ
    have N7 := cb_drop N6 hsub
    have F7 := Fr.congr F6 hm
    try clear F5 N4 N6 F6
    rw [List.size_toArray, hil, List.take_length] at M6
    obtain ⟨lt6, tw6, k6, l6, its6, hl6, hi6, rfl⟩ := id M6
    simp only [lexObjs, List.cons_append, List.nil_append] at N7
    unfold lm at F7
    (try dsimp only)
    ((repeat' ((fail_if_success (with_reducible show wpAny _ _ (exec (Stmt.For _ _ _ _ _) _) _ _ _)); (first | (k_unfold; (try dsimp only)) | ((with_reducible first | show wpAny _ _ (exec _ _) _ _ _ | show wpAny _ _ (execs _ _) _ _ _); k_fold) | (k_end; wrow_close) | walk1 | (dsimp only; walk1) | (leave1; (try dsimp only))))) <;> (repeat (k_unfold; (try dsimp only))))
    rename Fr _ _ _ _ => F8
    rename News _ _ _ _ => N8
    refine wpAny_For ?_
    ((repeat' ((fail_if_success (with_reducible show wpAny _ _ (pyIter _) _ _ _)); (first | (k_unfold; (try dsimp only)) | ((with_reducible first | show wpAny _ _ (exec _ _) _ _ _ | show wpAny _ _ (execs _ _) _ _ _); k_fold) | (k_end; wrow_close) | walk1 | (dsimp only; walk1) | (leave1; (try dsimp only))))) <;> (repeat (k_unfold; (try dsimp only))))
    rename (_ < _ ∧ _ < _ ∧ _) => l9
    rename_i Dd _ _ _ _
    have hDlo : ∀ q ∈ (L' + 1, oM) :: (lr, listOf items.toArray kr) :: (lexObjs w a (.int lin lt6) (.str wsp tw6) its6 k6 ++ l6), q.1 < Dd := by
      obtain ⟨e1, e2, e3, e4, e5, e6, e7, e8⟩ := l9
      exact List.forall_mem_cons.mpr ⟨e1, List.forall_mem_cons.mpr ⟨e2, List.forall_mem_cons.mpr ⟨e3, List.forall_mem_cons.mpr ⟨e4, List.forall_mem_cons.mpr ⟨e5, List.forall_mem_cons.mpr ⟨e6, List.forall_mem_cons.mpr ⟨e7, allLt_mem e8⟩⟩⟩⟩⟩⟩⟩
    have hDM : L' + 1 ≠ Dd := Nat.ne_of_lt (hDlo _ (.head _))
    have hDlr : lr ≠ Dd := Nat.ne_of_lt (hDlo _ (.tail _ (.head _)))
    have offD : Dd ∉ a.adrs ++ adr := not_adrs M6 Rd (fun r hr => Nat.ne_of_lt (hDlo r (.tail _ (.tail _ hr))))
    replace F8 : Fr g L' _ (lm lr f tf wv (some (.ref Dd)) none none) := Fr.congr F8 (by (intro y; unfold lm; (rcases Classical.em (y = "word") with rfl | h0); exact rfl; (rcases Classical.em (y = "dealt") with rfl | h1); exact rfl; (rcases Classical.em (y = "_place") with rfl | h2); exact rfl; (rcases Classical.em (y = "_turn") with rfl | h3); exact rfl; (rcases Classical.em (y = "row") with rfl | h4); exact rfl; (rcases Classical.em (y = "further") with rfl | h5); exact rfl; (try simp only [if_neg h0, if_neg h1, if_neg h2, if_neg h3, if_neg h4, if_neg h5]); (first | done | exact rfl | (show List.lookup y (_ :: _) = none; simp only [List.lookup, beq_eq_false_iff_ne.mpr h0, beq_eq_false_iff_ne.mpr h1, beq_eq_false_iff_ne.mpr h2, beq_eq_false_iff_ne.mpr h3, beq_eq_false_iff_ne.mpr h4, beq_eq_false_iff_ne.mpr h5]) | (simp only [List.lookup, beq_eq_false_iff_ne.mpr h0, beq_eq_false_iff_ne.mpr h1, beq_eq_false_iff_ne.mpr h2, beq_eq_false_iff_ne.mpr h3, beq_eq_false_iff_ne.mpr h4, beq_eq_false_iff_ne.mpr h5]; done))))
    clear l9
    refine' for_lst (env := envOfC _ _ L' 197 _) (lo := listOf items.toArray kr) (its := items.toArray) rfl rfl ⟨_, rfl⟩ rfl rfl rfl F8 N8
      (fun i m news => ∃ blk its2 k2 wv pv tv, MachSt w a RO lin wsp (ringL ws (i * (f + 1))) p blk ∧ StrsAre its2 (dealtTo ws (f + 1) i) ∧ (∀ q ∈ [(Dd, listOf (List.toArray its2) k2), (L' + 1, oM), (lr, listOf items.toArray kr)] ++ blk, q ∈ news) ∧ ∀ y, m y = lm lr f tf wv (some (.ref Dd)) pv tv y) ?hJ2 ?h02 ?turn2 ?done2
    case hJ2 => rintro i m nw ⟨blk, its2, k2, wv, pv, tv, h1, h2, h3, h4⟩; exact h3 _ (.tail _ (.tail _ (.head _)))
    case h02 => exact ⟨_, [], 0, wv, none, none, by rw [Nat.zero_mul, ringL_zero]; exact M6, .nil, fun q hq => hq, fun y => rfl⟩
    case turn2 =>
      intro i v m₁ news₁ h7 tk7 I oI hv hJ hI F9 N9
      obtain ⟨blk7, its2, k2, wv, pv, tv, M7, hst2, hsub, hm⟩ := hJ
      obtain ⟨tx, x, hx, rfl⟩ := strs_get hst (by simpa using hv)
      have hiw := (List.getElem?_eq_some_iff.mp hx).1
      have N10 := News.ins N9 hsub
      have F10 : Fr g L' h7 (lm lr f tf wv (some (.ref Dd)) (some (.str x tx)) tv) := Fr.congr F9 (fun y => by
        (try dsimp only); rw [hm]; unfold lm
        by_cases e : y = "_place"
        · subst e; rfl
        · simp only [if_neg e])
      have hID : Dd ≠ I := hI _ (hsub _ (.head _))
      have hIM : L' + 1 ≠ I := hI _ (hsub _ (.tail _ (.head _)))
      have hIlr : lr ≠ I := hI _ (hsub _ (.tail _ (.tail _ (.head _))))
      have offI : I ∉ a.adrs ++ adr := not_adrs M7 Rd (fun r hr => hI r (hsub _ (List.mem_append_right _ hr)))
      clear F8 N8 N9 F9
      try clear N7 F7
      obtain ⟨r, hr1, hr2⟩ := ringL_front hn (i * (f + 1))
      have hrl : r.length < ws.length := by
        have := congrArg List.length hr1
        rw [ringL_len, List.length_cons] at this
        omega
      rw [hr1] at M7
      obtain ⟨lt7, tw7, k7, l7, its7, hl7, hi7, rfl⟩ := id M7
      have hl2 := hst2.length
      have hl3 : (dealtTo ws (f + 1) i).length = i := by simp [dealtTo]
      simp only [lexObjs, List.cons_append, List.nil_append] at N10
      unfold lm at F10
      (try dsimp only); (try k_fold)
      ((repeat' ((fail_if_success (with_reducible show wpAny _ _ (call (Value.ref 91) _) _ _ _)); (first | (k_unfold; (try dsimp only)) | ((with_reducible first | show wpAny _ _ (exec _ _) _ _ _ | show wpAny _ _ (execs _ _) _ _ _); k_fold) | (k_end; wrow_close) | walk1 | (dsimp only; walk1) | (leave1; (try dsimp only))))) <;> (repeat (k_unfold; (try dsimp only))))
      rename Fr _ _ _ _ => F11
      rename News _ _ _ _ => N11
      refine mach_get1 (aa := [(I, oI), (Dd, listOf (List.toArray its2) k2), (L' + 1, oM), (lr, listOf items.toArray kr)]) Rd O M7 (List.forall_mem_cons.mpr ⟨offI, List.forall_mem_cons.mpr ⟨offD, List.forall_mem_cons.mpr ⟨offM, List.forall_mem_cons.mpr ⟨hlr, List.forall_mem_nil _⟩⟩⟩⟩) (by omega) B F11 X N11 T rfl rfl (by k_room) (by k_units) ?_
      intro t8 blk8 h8 tk8 F12 N12 M8
      clear F11 N11 M7
      obtain ⟨lt8, tw8, k8, l8, its8, hl8, hi8, rfl⟩ := id M8
      simp only [lexObjs, List.cons_append, List.nil_append] at N12
      have offDl : ∀ q ∈ l8, q.1 ≠ Dd := fun q hq => of_adrs M8 Rd offD q (List.mem_append_right _ hq)
      have d1 : a.x ≠ Dd := of_adrs M8 Rd offD (a.x, _) (.head _)
      have d2 : a.dx ≠ Dd := of_adrs M8 Rd offD (a.dx, _) (.tail _ (.head _))
      have d3 : a.pb ≠ Dd := of_adrs M8 Rd offD (a.pb, _) (.tail _ (.tail _ (.head _)))
      have d4 : a.st ≠ Dd := of_adrs M8 Rd offD (a.st, _) (.tail _ (.tail _ (.tail _ (.head _))))
      have d5 : a.std ≠ Dd := of_adrs M8 Rd offD (a.std, _) (.tail _ (.tail _ (.tail _ (.tail _ (.head _)))))
      (try dsimp only)
      ((repeat' ((fail_if_success (with_reducible show wpAny _ _ (call (Value.ref 98) _) _ _ _)); (first | (k_unfold; (try dsimp only)) | ((with_reducible first | show wpAny _ _ (exec _ _) _ _ _ | show wpAny _ _ (execs _ _) _ _ _); k_fold) | (k_end; wrow_close) | walk1 | (dsimp only; walk1) | (leave1; (try dsimp only))))) <;> (repeat (k_unfold; (try dsimp only))))
      rename Fr _ _ _ _ => F13
      rename News _ _ _ _ => N13
      simp only [List.push_toArray] at N13
      obtain ⟨y, hy⟩ : ∃ y, y = ws.getD (i * (f + 1) % ws.length) Str.empty := ⟨_, rfl⟩
      rw [← hy] at hr2 F13 N13
      rw [← hy]
      obtain ⟨dO, hdO⟩ : ∃ dO, dO = listOf (its2 ++ [Value.str y t8]).toArray (k2 + 1) := ⟨_, rfl⟩
      have hoff4 : ∀ q ∈ [(I, oI), (Dd, dO), (L' + 1, oM), (lr, listOf items.toArray kr)], q.1 ∉ a.adrs ++ adr := List.forall_mem_cons.mpr ⟨offI, List.forall_mem_cons.mpr ⟨offD, List.forall_mem_cons.mpr ⟨offM, List.forall_mem_cons.mpr ⟨hlr, List.forall_mem_nil _⟩⟩⟩⟩
      rw [← hdO] at N13
      refine mach_push (aa := [(I, oI), (Dd, dO), (L' + 1, oM), (lr, listOf items.toArray kr)]) Rd O M8 hoff4 (by omega) B F13 X N13 T rfl rfl (by k_room) (by k_units) ?_
      intro blk9 h9 tk9 F14 N14 M9
      rw [hr2] at M9
      clear F13 N13 M8
      try clear F12 N12
      obtain ⟨lt9, tw9, k9, l9, its9, hl9, hi9, rfl⟩ := id M9
      simp only [lexObjs, List.cons_append, List.nil_append] at N14
      (try dsimp only)
      ((repeat' ((fail_if_success (with_reducible show wpAny _ _ (exec (Stmt.For _ _ _ _ _) _) _ _ _)); (first | (k_unfold; (try dsimp only)) | ((with_reducible first | show wpAny _ _ (exec _ _) _ _ _ | show wpAny _ _ (execs _ _) _ _ _); k_fold) | (k_end; wrow_close) | walk1 | (dsimp only; walk1) | (leave1; (try dsimp only))))) <;> (repeat (k_unfold; (try dsimp only))))
      rename Fr _ _ _ _ => F15
      rename News _ _ _ _ => N15
      refine wpAny_For ?_
      ((repeat' ((fail_if_success (with_reducible show wpAny _ _ (pyIter _) _ _ _)); (first | (k_unfold; (try dsimp only)) | ((with_reducible first | show wpAny _ _ (exec _ _) _ _ _ | show wpAny _ _ (execs _ _) _ _ _); k_fold) | (k_end; wrow_close) | walk1 | (dsimp only; walk1) | (leave1; (try dsimp only))))) <;> (repeat (k_unfold; (try dsimp only))))
      rename Fr _ _ _ _ => F16
      rename News _ _ _ _ => N16
      rename IsRange _ _ _ _ _ _ _ _ => R16
      replace F16 : Fr g L' _ (lm lr f tf (some (.str y t8)) (some (.ref Dd)) (some (.str x tx)) tv) := Fr.congr F16 (by (intro y; unfold lm; (rcases Classical.em (y = "word") with rfl | h0); exact rfl; (rcases Classical.em (y = "dealt") with rfl | h1); exact rfl; (rcases Classical.em (y = "_place") with rfl | h2); exact rfl; (rcases Classical.em (y = "_turn") with rfl | h3); exact rfl; (rcases Classical.em (y = "row") with rfl | h4); exact rfl; (rcases Classical.em (y = "further") with rfl | h5); exact rfl; (try simp only [if_neg h0, if_neg h1, if_neg h2, if_neg h3, if_neg h4, if_neg h5]); (first | done | exact rfl | (show List.lookup y (_ :: _) = none; simp only [List.lookup, beq_eq_false_iff_ne.mpr h0, beq_eq_false_iff_ne.mpr h1, beq_eq_false_iff_ne.mpr h2, beq_eq_false_iff_ne.mpr h3, beq_eq_false_iff_ne.mpr h4, beq_eq_false_iff_ne.mpr h5]) | (simp only [List.lookup, beq_eq_false_iff_ne.mpr h0, beq_eq_false_iff_ne.mpr h1, beq_eq_false_iff_ne.mpr h2, beq_eq_false_iff_ne.mpr h3, beq_eq_false_iff_ne.mpr h4, beq_eq_false_iff_ne.mpr h5]; done))))
      refine' for_range (env := envOfC _ _ L' 197 _) (n := f) rfl R16 ?hsm3 ?hn3 rfl rfl rfl F16 N16
        (fun j m news => ∃ blk tv, MachSt w a RO lin wsp (ringL ws (i * (f + 1) + 1 + j)) p blk ∧ (∀ q ∈ [(I, oI), (Dd, dO), (L' + 1, oM), (lr, listOf items.toArray kr)] ++ blk, q ∈ news) ∧ ∀ z, m z = lm lr f tf (some (.str y t8)) (some (.ref Dd)) (some (.str x tx)) tv z) ?h03 ?turn3 ?done3
      case hsm3 => exact small_one (by omega) (by omega) (by omega) (by omega)
      case hn3 => rw [rangeSize_nat, Int.sub_zero, Int.toNat_natCast]
      case h03 => exact ⟨_, tv, M9, fun q hq => hq, fun z => rfl⟩
      case turn3 =>
        intro j t3 m₂ news₂ h10 tk10 I3 oI3 hj hJ3 hI3 F17 N17
        obtain ⟨blk10, tv3, M10, hsub3, hm3⟩ := hJ3
        have N18 := News.ins N17 hsub3
        have F18 : Fr g L' h10 (lm lr f tf (some (.str y t8)) (some (.ref Dd)) (some (.str x tx)) (some (.int (0 + (j : Int)) t3))) := Fr.congr F17 (fun z => by
          (try dsimp only); rw [hm3]; unfold lm
          by_cases e : z = "_turn"
          · subst e; rfl
          · simp only [if_neg e])
        have offI3 : I3 ∉ a.adrs ++ adr := not_adrs M10 Rd (fun r hr => hI3 r (hsub3 _ (List.mem_append_right _ hr)))
        have hIs3 : ∀ q ∈ [(I, oI), (Dd, dO), (L' + 1, oM), (lr, listOf items.toArray kr)], q.1 ≠ I3 := fun q hq => hI3 q (hsub3 _ (List.mem_append_left _ hq))
        have hoff5 : ∀ q ∈ [(I3, oI3), (I, oI), (Dd, dO), (L' + 1, oM), (lr, listOf items.toArray kr)], q.1 ∉ a.adrs ++ adr := List.forall_mem_cons.mpr ⟨offI3, hoff4⟩
        try clear F15 N15
        try clear F16 N16
        clear N17 F17
        try clear F14 N14
        obtain ⟨r3, hr3, hr4⟩ := ringL_front hn (i * (f + 1) + 1 + j)
        have hrl3 : r3.length < ws.length := by
          have := congrArg List.length hr3
          rw [ringL_len, List.length_cons] at this
          omega
        rw [hr3] at M10
        obtain ⟨lt10, tw10, k10, l10, its10, hl10, hi10, rfl⟩ := id M10
        simp only [lexObjs, List.cons_append, List.nil_append] at N18
        unfold lm at F18
        (try dsimp only); (try k_fold)
        ((repeat' ((fail_if_success (with_reducible show wpAny _ _ (call (Value.ref 91) _) _ _ _)); (first | (k_unfold; (try dsimp only)) | ((with_reducible first | show wpAny _ _ (exec _ _) _ _ _ | show wpAny _ _ (execs _ _) _ _ _); k_fold) | (k_end; wrow_close) | walk1 | (dsimp only; walk1) | (leave1; (try dsimp only))))) <;> (repeat (k_unfold; (try dsimp only))))
        rename Fr _ _ _ _ => F19
        rename News _ _ _ _ => N19
        refine mach_get1 (aa := [(I3, oI3), (I, oI), (Dd, dO), (L' + 1, oM), (lr, listOf items.toArray kr)]) Rd O M10 hoff5 (by omega) B F19 X N19 T rfl rfl (by k_room) (by k_units) ?_
        intro t11 blk11 h11 tk11 F20 N20 M11
        clear F19 N19 M10
        obtain ⟨lt11, tw11, k11, l11, its11, hl11, hi11, rfl⟩ := id M11
        simp only [lexObjs, List.cons_append, List.nil_append] at N20
        (try dsimp only)
        ((repeat' ((fail_if_success (with_reducible show wpAny _ _ (call (Value.ref 98) _) _ _ _)); (first | (k_unfold; (try dsimp only)) | ((with_reducible first | show wpAny _ _ (exec _ _) _ _ _ | show wpAny _ _ (execs _ _) _ _ _); k_fold) | (k_end; wrow_close) | walk1 | (dsimp only; walk1) | (leave1; (try dsimp only))))) <;> (repeat (k_unfold; (try dsimp only))))
        rename Fr _ _ _ _ => F21
        rename News _ _ _ _ => N21
        refine mach_push (aa := [(I3, oI3), (I, oI), (Dd, dO), (L' + 1, oM), (lr, listOf items.toArray kr)]) Rd O M11 hoff5 (by omega) B F21 X N21 T rfl rfl (by k_room) (by k_units) ?_
        intro blk12 h12 tk12 F22 N22 M12
        rw [hr4] at M12
        clear F21 N21 M11
        try clear F20 N20
        (try dsimp only)
        ((repeat' ((fail_if_success (with_reducible show Left _)); (first | (k_unfold; (try dsimp only)) | ((with_reducible first | show wpAny _ _ (exec _ _) _ _ _ | show wpAny _ _ (execs _ _) _ _ _); k_fold) | (k_end; wrow_close) | walk1 | (dsimp only; walk1) | (leave1; (try dsimp only))))) <;> (repeat (k_unfold; (try dsimp only))))
        (try dsimp only)
        unfold Left
        refine ⟨_, _, _, _, rfl, F22, News.outs (aa := [(I, oI), (Dd, dO), (L' + 1, oM), (lr, listOf items.toArray kr)]) N22, ?_, blk12, _, M12, fun q hq => hq, fun z => rfl⟩
        intro q hq
        rcases List.mem_append.mp hq with hq | hq
        · exact hIs3 q hq
        · exact of_adrs M12 Rd offI3 q hq
      case done3 =>
        intro m₂ news₂ h10 tk10 hJ3 F17 N17
        obtain ⟨blk10, tv3, M10, hsub3, hm3⟩ := hJ3
        have N18 := cb_drop N17 hsub3
        have F18 := Fr.congr F17 hm3
        try clear F15 N15
        try clear F16 N16
        clear N17 F17
        (try dsimp only)
        ((repeat' ((fail_if_success (with_reducible show Left _)); (first | (k_unfold; (try dsimp only)) | ((with_reducible first | show wpAny _ _ (exec _ _) _ _ _ | show wpAny _ _ (execs _ _) _ _ _); k_fold) | (k_end; wrow_close) | walk1 | (dsimp only; walk1) | (leave1; (try dsimp only))))) <;> (repeat (k_unfold; (try dsimp only))))
        (try dsimp only)
        unfold Left
        refine ⟨_, _, _, _, rfl, F18, News.outs (aa := [(Dd, dO), (L' + 1, oM), (lr, listOf items.toArray kr)]) N18, ?_, blk10, its2 ++ [Value.str y t8], k2 + 1, _, _, _, ?_, ?_, ?_, fun z => rfl⟩
        · intro q hq
          rcases List.mem_append.mp hq with hq | hq
          · have h9 : ∀ q ∈ [(Dd, dO), (L' + 1, oM), (lr, listOf items.toArray kr)], q.1 ≠ I := List.forall_mem_cons.mpr ⟨hID, List.forall_mem_cons.mpr ⟨hIM, List.forall_mem_cons.mpr ⟨hIlr, List.forall_mem_nil _⟩⟩⟩
            exact h9 q hq
          · exact of_adrs M10 Rd offI q hq
        · rw [Nat.add_mul, Nat.one_mul, show i * (f + 1) + (f + 1) = i * (f + 1) + 1 + f from by omega]; exact M10
        · rw [dealtTo_succ, ← hy]; exact kct_snoc hst2
        · rw [hdO]; exact fun q hq => hq
    case done2 =>
      intro m₁ news₁ h7 tk7 hJ F9 N9
      obtain ⟨blk7, its2, k2, wv, pv, tv, M7, hst2, hsub, hm⟩ := hJ
      rw [List.size_toArray, hil, ringL_full] at M7
      rw [List.size_toArray, hil] at hst2
      have N10 := cb_drop N9 hsub
      have F10 := Fr.congr F9 hm
      clear F8 N8 N9 F9
      try clear N7 F7
      unfold lm at F10
      (try dsimp only)
      ((repeat' ((fail_if_success (with_reducible show wpAny _ _ (eval (Expr.ListComp _ _ _ _) _) _ _ _)); (first | (k_unfold; (try dsimp only)) | ((with_reducible first | show wpAny _ _ (exec _ _) _ _ _ | show wpAny _ _ (execs _ _) _ _ _); k_fold) | (k_end; wrow_close) | walk1 | (dsimp only; walk1) | (leave1; (try dsimp only))))) <;> (repeat (k_unfold; (try dsimp only))))
      refine LCg.ListComp_U (F₀ := F10) (by with_unfolding_all rfl) (by decide) (by rfl) (by decide) (by rfl) ?_
      ((repeat' ((fail_if_success (with_reducible show LCg.CompSrc _ _ _ _ _ _ _ _ _ _ _ _ _ _)); (first | (k_unfold; (try dsimp only)) | ((with_reducible first | show wpAny _ _ (exec _ _) _ _ _ | show wpAny _ _ (execs _ _) _ _ _); k_fold) | (k_end; wrow_close) | walk1 | (dsimp only; walk1) | (leave1; (try dsimp only))))) <;> (repeat (k_unfold; (try dsimp only))))
      refine LCg.CompSrc.ledger (k := kr) (its := items.toArray) (news := [(Dd, listOf (List.toArray its2) k2), (L' + 1, oM), (lr, listOf items.toArray kr)] ++ blk7) rfl (by assumption) (by assumption) (.tail _ (.tail _ (.head _))) (by rw [sizeLine_eq, List.size_toArray]; omega) (fun g' => ?_)
      refine rest_of items.toArray.size (fun i ys news => ∃ blk, MachSt w a RO lin wsp (ws.drop i) p blk ∧ StrsAre ys (ws.take i) ∧ news = [(Dd, listOf (List.toArray its2) k2), (L' + 1, oM), (lr, listOf items.toArray kr)] ++ blk) ?_ ?_ _ 0 [] _ (Nat.zero_add _) ⟨blk7, M7, .nil, rfl⟩
      · rintro i ys news v I oI C oC D m₂ h8 tk8 E' hi ⟨blk8, M8, hys, rfl⟩ hP hns hx F11 N11 o3 ne
        have hi2 : i < ws.length := by rw [List.size_toArray, hil] at hi; exact hi
        rw [List.drop_eq_getElem_cons hi2] at M8
        have om := LCg.Off3.mem o3
        have offI := not_adrs M8 Rd (fun r hr => (om r (List.mem_append_right _ hr)).1)
        have offC := not_adrs M8 Rd (fun r hr => (om r (List.mem_append_right _ hr)).2.1)
        have offDD := not_adrs M8 Rd (fun r hr => (om r (List.mem_append_right _ hr)).2.2)
        obtain ⟨lt8, tw8, k8, l8, its8, hl8, hi8, rfl⟩ := id M8
        clear N10 F10
        simp only [lexObjs, List.cons_append, List.nil_append] at N11
        (try dsimp only); (try k_fold)
        ((repeat' ((fail_if_success (with_reducible show wpAny _ _ (call (Value.ref 91) _) _ _ _)); (first | (k_unfold; (try dsimp only)) | ((with_reducible first | show wpAny _ _ (exec _ _) _ _ _ | show wpAny _ _ (execs _ _) _ _ _); k_fold) | (k_end; wrow_close) | walk1 | (dsimp only; walk1) | (leave1; (try dsimp only))))) <;> (repeat (k_unfold; (try dsimp only))))
        rename Fr _ _ _ _ => F12
        rename News _ _ _ _ => N12
        refine mach_get1 (aa := [(I, oI), (C, oC), (D, LCg.lst ys), (Dd, listOf (List.toArray its2) k2), (L' + 1, oM), (lr, listOf items.toArray kr)]) Rd O M8
          (List.forall_mem_cons.mpr ⟨offI, List.forall_mem_cons.mpr ⟨offC, List.forall_mem_cons.mpr ⟨offDD, List.forall_mem_cons.mpr ⟨offD, List.forall_mem_cons.mpr ⟨offM, List.forall_mem_cons.mpr ⟨hlr, List.forall_mem_nil _⟩⟩⟩⟩⟩⟩) (by simp; omega) B F12 X N12 T rfl rfl (by k_room) (by k_units) ?_
        intro t9 blk9 h9 tk9 F13 N13 M9
        refine LCg.CompEnd.intro F13 N13 ([(Dd, listOf (List.toArray its2) k2), (L' + 1, oM), (lr, listOf items.toArray kr)] ++ blk9) (fun q hq => hq) (LCg.Off3.of fun q hq => ?_) (.inr ⟨_, .tail _ (.tail _ (.head _)), rfl, _, rfl⟩) ⟨blk9, M9, ?_, rfl⟩
        · rcases List.mem_append.mp hq with hq | hq
          · exact om q (List.mem_append_left _ hq)
          · exact ⟨of_adrs M9 Rd offI q hq, of_adrs M9 Rd offC q hq, of_adrs M9 Rd offDD q hq⟩
        · rw [List.take_add_one, List.getElem?_eq_getElem hi2]; exact kct_snoc hys
      · rintro ys news ⟨blk8, M8, hys, rfl⟩ Dc h8 tk8 F11 N11 o1
        rw [List.size_toArray, hil, List.take_length] at hys
        rw [List.size_toArray, hil, List.drop_length] at M8
        clear N10 F10
        (try dsimp only); (try k_fold)
        ((repeat' ((fail_if_success (with_reducible show wpAny _ _ (compareOp _ _ _) _ _ _)); (first | (k_unfold; (try dsimp only)) | ((with_reducible first | show wpAny _ _ (exec _ _) _ _ _ | show wpAny _ _ (execs _ _) _ _ _); k_fold) | (k_end; wrow_close) | walk1 | (dsimp only; walk1) | (leave1; (try dsimp only))))) <;> (repeat (k_unfold; (try dsimp only))))
        rename Fr _ _ _ _ => F12
        rename News _ _ _ _ => N12
        refine ne_strs (News.isList N12 (by k_mem)) (News.isList N12 (by k_mem)) hys hst hok hok (by ke_room) ?_
        rw [decide_eq_true rfl, Bool.not_true]
        (try dsimp only)
        ((repeat' (first | (k_unfold; (try dsimp only)) | ((with_reducible first | show wpAny _ _ (exec _ _) _ _ _ | show wpAny _ _ (execs _ _) _ _ _); k_fold) | (k_end; wrow_close) | walk1 | (dsimp only; walk1) | (leave1; (try dsimp only)))) <;> (repeat (k_unfold; (try dsimp only))))
        (try dsimp only)
        rename Fr _ _ _ _ => F13
        rename News _ _ _ _ => N13
        refine ret _ ((Dd, listOf (List.toArray its2) k2) :: (lr, listOf items.toArray kr) :: blk8) _ _ F13.keep (fun q hq => ?_) ⟨Dd, its2, k2, blk8, rfl, hst2, M8, offD, hDlr.symm, rfl⟩
        rcases List.mem_cons.mp hq with rfl | hq
        · exact ⟨(N13 _ (.tail _ (.head _))).1, (N13 _ (.tail _ (.head _))).2.2⟩
        · rcases List.mem_cons.mp hq with rfl | hq
          · exact ⟨(N13 _ (.tail _ (.tail _ (.tail _ (.head _))))).1, (N13 _ (.tail _ (.tail _ (.tail _ (.head _))))).2.2⟩
          · exact ⟨(N13 _ (.tail _ (.tail _ (.tail _ (.tail _ hq))))).1, (N13 _ (.tail _ (.tail _ (.tail _ (.tail _ hq))))).2.2⟩
section
variable {prog : Program} {w : World} {A : Around} {s : Shared} {env : Env} {h₀ : Heap} {L : Addr}
/-- a while by what holds between its turns and a number that falls -/
theorem while_J {R : Result → Shared → Prop} {test : Expr} {body : List Stmt} {m : Str → Option Value} {news : List (Addr × Obj)} {n : Nat} (F : Fr h₀ L s.heap m) (N : News h₀ L s.heap news)
    (J : Nat → (Str → Option Value) → List (Addr × Obj) → Prop) (h0 : J n m news)
    (turn : ∀ n m₁ news₁ h tk, J n m₁ news₁ → Fr h₀ L h m₁ → News h₀ L h news₁ →
      wpAny (model prog w) A (isTrue test env (eval test env)) (fun b s₂ =>
        if b = true then wpAny (model prog w) A (execs body env) (fun f s₃ => match f with
            | .next | .cont => Left (∃ n' m' nx h' tk', n' < n ∧ s₃ = { s with heap := h', toks := tk' } ∧ Fr h₀ L h' m' ∧ News h₀ L h' nx ∧ J n' m' nx)
            | .brk => R (.ok .next) s₃
            | .ret v => R (.ok (.ret v)) s₃) (fun _ _ => False) s₂
        else R (.ok .next) s₂) (fun _ _ => False) { s with heap := h, toks := tk }) :
    codeAny (model prog w) A (.whileLoop test body [] env) R s := by
  refine codeAny_whileLoop (fun n s' => ∃ m news h tk, s' = { s with heap := h, toks := tk } ∧ Fr h₀ L h m ∧ News h₀ L h news ∧ J n m news) ?_ n ⟨m, news, s.heap, s.toks, rfl, F, N, h0⟩
  rintro n s' ⟨m₁, news₁, h, tk, rfl, F₁, N₁, hJ⟩
  refine wpAny_mono (turn n m₁ news₁ h tk hJ F₁ N₁) (fun b s₂ z => ?_) (fun _ _ z => z.elim)
  cases b with
  | true =>
    simp only [if_true] at z ⊢
    refine wpAny_mono z (fun f s₃ z => ?_) (fun _ _ z => z.elim)
    cases f with
    | next => obtain ⟨n', m', nx, h', tk', a1, a2, a3, a4, a5⟩ := z; exact ⟨n', a1, m', nx, h', tk', a2, a3, a4, a5⟩
    | cont => obtain ⟨n', m', nx, h', tk', a1, a2, a3, a4, a5⟩ := z; exact ⟨n', a1, m', nx, h', tk', a2, a3, a4, a5⟩
    | brk => exact z
    | ret v => exact z
  | false =>
    simp only [Bool.false_eq_true, if_false] at z ⊢
    exact wpAny_execs_nil z
end
section
variable {prog : Program} {w : World} {A : Around} {E : Value → Shared → Prop} {s : Shared} {t u : Tok} {Q : Value → Shared → Prop}
theorem fdiv_st {x y : Nat} (hy : 0 < y) (hy2 : y < 1000) (h : Q (.int ((x / y : Nat) : Int) s.toks) { s with toks := s.toks + 1 }) : wpAny (model prog w) A (binaryOp .FloorDiv (.int (x : Int) t) (.int (y : Int) u)) Q E s := by
  refine floordiv_int (by omega) ?_ (.inl (PyProof.noPylong_small (by omega)))
  rw [fdiv_nn]; exact h
theorem fdiv2_st {x : Nat} (h : Q (.int ((x / 2 : Nat) : Int) s.toks) { s with toks := s.toks + 1 }) : wpAny (model prog w) A (binaryOp .FloorDiv (.int (x : Int) t) (.int 2 u)) Q E s :=
  fdiv_st (y := 2) (by omega) (by omega) h
theorem mod_st {x y : Nat} (hy : 0 < y) (hy2 : y < 1000) (h : Q (.int ((x % y : Nat) : Int) s.toks) { s with toks := s.toks + 1 }) : wpAny (model prog w) A (binaryOp .Mod (.int (x : Int) t) (.int (y : Int) u)) Q E s := by
  refine mod_int' (by omega) ?_
  rw [fmod_nn]; exact h
theorem pow_st {x y : Nat} (hx : x < 16) (hy : y < 100) (h : Q (.int ((x ^ y : Nat) : Int) s.toks) { s with toks := s.toks + 1 }) : wpAny (model prog w) A (binaryOp .Pow (.int (x : Int) t) (.int (y : Int) u)) Q E s := by
  have hb := bits_lt (a := x) (m := 4) (by omega)
  refine pow_int (Int.natCast_nonneg _) ?_ ?_
  · have e : (2 : Int) ^ 27 = 134217728 := by decide
    rw [e]
    have : ((Builtin.Int.intBits (x : Int) : Nat) : Int) * (y : Int) ≤ 4 * 100 := by
      have h1 : Builtin.Int.intBits (x : Int) * y ≤ 4 * 100 := Nat.mul_le_mul hb (by omega)
      exact_mod_cast h1
    omega
  · rw [Int.toNat_natCast, ← Int.natCast_pow]; exact h
end
/-- Euler's sign of a number to a prime -/
noncomputable def leg (step p : Nat) : Int := if step ^ (p / 2) % p = p - 1 then -1 else if step ^ (p / 2) % p = 0 then 0 else 1
/-- the size without the prime, the character with its signs -/
noncomputable def whl (step p : Nat) : Nat → Nat → Int → Nat × Int
  | 0, l, c => (l, c)
  | f + 1, l, c => if l % p = 0 then whl step p f (l / p) (c * leg step p) else (l, c)
noncomputable def chrTo (step : Nat) : List Nat → Nat × Int → Nat × Int
  | [], x => x
  | p :: r, x => chrTo step r (whl step p 16 x.1 x.2)
noncomputable def chrOf (size step : Nat) : Int := (chrTo step [3, 5, 7, 11, 13] (size, 1)).2
theorem chrTo_app (step : Nat) (a : List Nat) (p : Nat) : ∀ x, chrTo step (a ++ [p]) x = whl step p 16 (chrTo step a x).1 (chrTo step a x).2 := by
  induction a with
  | nil => intro x; rfl
  | cons q a ih => intro x; exact ih _
theorem whl_stop {step p f l : Nat} {c : Int} (h : l % p ≠ 0) : whl step p f l c = (l, c) := by
  cases f with
  | zero => rfl
  | succ f => rw [whl, if_neg h]
theorem whl_turn {step p f l : Nat} {c : Int} (h : l % p = 0) : whl step p (f + 1) l c = whl step p f (l / p) (c * leg step p) := by rw [whl, if_pos h]
theorem prime_at {i : Nat} {v : Value} {t1 t2 t3 t4 t5 : Tok} (h : #[Value.int 3 t1, Value.int 5 t2, Value.int 7 t3, Value.int 11 t4, Value.int 13 t5][i]? = some v) :
    ∃ (p : Nat) (t : Tok), v = .int (p : Int) t ∧ [3, 5, 7, 11, 13][i]? = some p := by
  rcases i with _ | _ | _ | _ | _ | i
  · exact ⟨3, t1, (Option.some.inj h).symm, rfl⟩
  · exact ⟨5, t2, (Option.some.inj h).symm, rfl⟩
  · exact ⟨7, t3, (Option.some.inj h).symm, rfl⟩
  · exact ⟨11, t4, (Option.some.inj h).symm, rfl⟩
  · exact ⟨13, t5, (Option.some.inj h).symm, rfl⟩
  · simp at h
/-- the locals of _law_character -/
noncomputable def cm (size step left : Nat) (ch : Int) (t1 t2 t3 t4 : Tok) (pv rv : Option Value) : Str → Option Value :=
  fun y => if y = "p" then pv else if y = "rest" then rv else if y = "left" then some (.int left t3) else if y = "character" then some (.int ch t4) else if y = "size" then some (.int size t1) else if y = "step" then some (.int step t2) else none
theorem character_c (w : World) (size step : Nat) (t1 t2 : Tok) (T3 T4 : List (Addr × Obj)) (S3 : TabSt 37 35 4 "_int2digits.<locals>.inner" T3) (S4 : TabSt 44 50 4 "_digits2int.<locals>.inner" T4) (h0 : 0 < size) (h1 : size < 16) (h2 : step < 16)
    (hE : ∀ p ∈ [3, 5, 7, 11, 13], step ^ (p / 2) % p = 0 ∨ step ^ (p / 2) % p = 1 ∨ step ^ (p / 2) % p = p - 1) :
    Con w 110 700 204 [.int size t1, .int step t2] (T3 ++ T4) (fun _ v blk => ∃ T3' T4' t, v = .int (chrOf size step) t ∧ TabSt 37 35 4 "_int2digits.<locals>.inner" T3' ∧ TabSt 44 50 4 "_digits2int.<locals>.inner" T4' ∧ blk = T3' ++ T4') := by
  unfold Con
  k_fill
  intro dp un gd outer base g tp tl mean mg mb s R B hg hsz hsel X T hd hu ret
  refine' enter_g B hg hsz hsel X T ?k6 ?k7 ?k8 ?k9 ?kB ?_ ?c2 ?c3 ?c4 ?c5
  (case k6 => k_is); (case k7 => k_is); (case k8 => ktr_room); (case k9 => exact BindsTo.of_eq rfl); (case c5 => decide); (case kB => exact locs rfl); (case c2 => exact rfl); (case c3 => exact rfl); (case c4 => exact rfl)
  k_whole
  intro L' h' tk' F' N' l1
  (try dsimp only); (try k_fold)
  ((repeat' ((fail_if_success (with_reducible show wpAny _ _ (exec (Stmt.For _ _ _ _ _) _) _ _ _)); (first | (k_unfold; (try dsimp only)) | ((with_reducible first | show wpAny _ _ (exec _ _) _ _ _ | show wpAny _ _ (execs _ _) _ _ _); k_fold) | (k_end; wrow_close) | walk1 | (dsimp only; walk1) | (leave1; (try dsimp only))))) <;> (repeat (k_unfold; (try dsimp only))))
  rename Fr _ _ _ _ => F4
  rename News _ _ _ _ => N4
  refine wpAny_For ?_
  ((repeat' ((fail_if_success (with_reducible show wpAny _ _ (pyIter _) _ _ _)); (first | (k_unfold; (try dsimp only)) | ((with_reducible first | show wpAny _ _ (exec _ _) _ _ _ | show wpAny _ _ (execs _ _) _ _ _); k_fold) | (k_end; wrow_close) | walk1 | (dsimp only; walk1) | (leave1; (try dsimp only))))) <;> (repeat (k_unfold; (try dsimp only))))
  rename (∀ p ∈ T3 ++ T4, _) => l9
  rename Fr _ _ _ _ => F5
  rename News _ _ _ _ => N5
  rename_i _ _ Dt _
  obtain ⟨dO, hdO⟩ : ∃ dO, dO = ({ cls := Value.type "tuple", data := Data.seq #[Value.int 3 tk, Value.int 5 (tk + 1), Value.int 7 (tk + 1 + 1), Value.int 11 (tk + 1 + 1 + 1), Value.int 13 (tk + 1 + 1 + 1 + 1)] } : Obj) := ⟨_, rfl⟩
  rw [← hdO] at N5
  refine' for_tup (env := envOf _ _ L' 204 _) (lo := dO) (its := #[Value.int 3 tk, Value.int 5 (tk + 1), Value.int 7 (tk + 1 + 1), Value.int 11 (tk + 1 + 1 + 1), Value.int 13 (tk + 1 + 1 + 1 + 1)]) rfl (by rw [hdO]) ⟨0, by rw [hdO]⟩ rfl rfl rfl F5 N5
    (fun i m news => ∃ T3 T4 left ch t3 t4 pv rv, TabSt 37 35 4 "_int2digits.<locals>.inner" T3 ∧ TabSt 44 50 4 "_digits2int.<locals>.inner" T4 ∧ chrTo step ([3, 5, 7, 11, 13].take i) (size, 1) = (left, ch) ∧ 0 < left ∧ left < 16 ∧ (∀ r ∈ T3 ++ T4, r.1 ≠ Dt) ∧ (∀ q ∈ (Dt, dO) :: (T3 ++ T4), q ∈ news) ∧ ∀ y, m y = cm size step left ch t1 t2 t3 t4 pv rv y) ?hJ ?h0 ?turn ?done
  case hJ => rintro i m nw ⟨T3, T4, left, ch, t3, t4, pv, rv, _, _, _, _, _, _, h3, _⟩; exact h3 _ (.head _)
  case h0 =>
    refine' ⟨T3, T4, size, 1, _, _, none, none, S3, S4, rfl, h0, h1, fun r hr => Nat.ne_of_lt (l9 r hr), fun q hq => hq, ?meq⟩
    case meq => (intro y; unfold cm; (rcases Classical.em (y = "p") with rfl | h0); exact rfl; (rcases Classical.em (y = "rest") with rfl | h1); exact rfl; (rcases Classical.em (y = "left") with rfl | h2); exact rfl; (rcases Classical.em (y = "character") with rfl | h3); exact rfl; (rcases Classical.em (y = "size") with rfl | h4); exact rfl; (rcases Classical.em (y = "step") with rfl | h5); exact rfl; (try simp only [if_neg h0, if_neg h1, if_neg h2, if_neg h3, if_neg h4, if_neg h5]); (first | done | exact rfl | (show List.lookup y (_ :: _) = none; simp only [List.lookup, beq_eq_false_iff_ne.mpr h0, beq_eq_false_iff_ne.mpr h1, beq_eq_false_iff_ne.mpr h2, beq_eq_false_iff_ne.mpr h3, beq_eq_false_iff_ne.mpr h4, beq_eq_false_iff_ne.mpr h5]) | (simp only [List.lookup, beq_eq_false_iff_ne.mpr h0, beq_eq_false_iff_ne.mpr h1, beq_eq_false_iff_ne.mpr h2, beq_eq_false_iff_ne.mpr h3, beq_eq_false_iff_ne.mpr h4, beq_eq_false_iff_ne.mpr h5]; done)))
  case turn =>
    intro i v m₁ news₁ h6 tk6 I oI hv hJ hI F6 N6
    obtain ⟨T3, T4, left, ch, t3, t4, pv, rv, S3, S4, hch, hl0, hl16, hoffD, hsub, hm⟩ := hJ
    obtain ⟨ch0, hch0⟩ : ∃ c, c = ch := ⟨_, rfl⟩
    obtain ⟨p, tp, rfl, hp⟩ := prime_at hv
    have hpm : p ∈ [3, 5, 7, 11, 13] := List.mem_of_getElem? hp
    have hp3 : 3 ≤ p ∧ p ≤ 13 := by
      simp only [List.mem_cons, List.not_mem_nil, or_false] at hpm
      omega
    have hEp := hE p hpm
    have hnext : chrTo step ([3, 5, 7, 11, 13].take (i + 1)) (size, 1) = whl step p 16 left ch := by
      rw [List.take_add_one, hp]
      show chrTo step (_ ++ [p]) _ = _
      rw [chrTo_app, hch]
    have N7 := News.ins (aa := [(Dt, dO)]) N6 hsub
    simp only [List.cons_append, List.nil_append] at N7
    have F7 : Fr g L' h6 (cm size step left ch t1 t2 t3 t4 (some (.int (p : Int) tp)) rv) := Fr.congr F6 (fun y => by
      (try dsimp only); rw [hm]; unfold cm; split <;> rfl)
    have hID : ∀ q ∈ [(Dt, dO)], q.1 ≠ I := fun q hq => hI q (hsub q (by rw [List.mem_singleton.mp hq]; exact .head _))
    clear F5 N5 N6 F6
    try clear F4 N4
    (try dsimp only); (try k_fold)
    ((repeat' ((fail_if_success (with_reducible show wpAny _ _ (exec (Stmt.While _ _ _ _) _) _ _ _)); (first | (k_unfold; (try dsimp only)) | ((with_reducible first | show wpAny _ _ (exec _ _) _ _ _ | show wpAny _ _ (execs _ _) _ _ _); k_fold) | (k_end; wrow_close) | walk1 | (dsimp only; walk1) | (leave1; (try dsimp only))))) <;> (repeat (k_unfold; (try dsimp only))))
    refine wpAny_While ?_
    refine while_J (n := left) F7 N7 (fun n m news => ∃ T3 T4 ch f t3 t4 rv, TabSt 37 35 4 "_int2digits.<locals>.inner" T3 ∧ TabSt 44 50 4 "_digits2int.<locals>.inner" T4 ∧ whl step p f n ch = whl step p 16 left ch0 ∧ 0 < n ∧ n < 16 ∧ n ≤ f ∧ (∀ q ∈ [(I, oI), (Dt, dO)], ∀ r ∈ T3 ++ T4, q.1 ≠ r.1) ∧ (∀ q ∈ (I, oI) :: (Dt, dO) :: (T3 ++ T4), q ∈ news) ∧ ∀ y, m y = cm size step n ch t1 t2 t3 t4 (some (.int (p : Int) tp)) rv y) ?_ ?_
    · exact ⟨T3, T4, ch, 16, t3, t4, rv, S3, S4, by rw [hch0], hl0, hl16, by omega, List.forall_mem_cons.mpr ⟨fun r hr => (hI r (hsub r (.tail _ hr))).symm, List.forall_mem_cons.mpr ⟨fun r hr => (hoffD r hr).symm, List.forall_mem_nil _⟩⟩, fun q hq => hq, fun y => rfl⟩
    intro n m₂ news₂ h8 tk8 hJ2 F8 N8
    obtain ⟨T3, T4, c, f, t3, t4, rv, S3, S4, hw, hn0, hn16, hnf, offo, hsub2, hm2⟩ := hJ2
    replace F8 := Fr.congr F8 hm2
    replace N8 := cb_drop N8 hsub2
    try clear F7 N7
    unfold cm at F8
    (try dsimp only); (try k_fold)
    ((repeat' ((fail_if_success (with_reducible show wpAny _ _ (call (Value.ref 63) _) _ _ _)); (fail_if_success (with_reducible show Left _)); (first | ((with_reducible show wpAny _ _ (binaryOp Operator.Mod (Value.int (Nat.cast _) _) (Value.int (Nat.cast _) _)) _ _ _); refine mod_st (by omega) (by omega) ?_) | ((with_reducible show wpAny _ _ (binaryOp Operator.FloorDiv _ (Value.int 2 _)) _ _ _); refine fdiv2_st ?_) | ((with_reducible show wpAny _ _ (binaryOp Operator.FloorDiv (Value.int (Nat.cast _) _) (Value.int (Nat.cast _) _)) _ _ _); refine fdiv_st (by omega) (by omega) ?_) | ((with_reducible show wpAny _ _ (binaryOp Operator.Pow _ _) _ _ _); refine pow_st h2 (by omega) ?_) | (k_unfold; (try dsimp only)) | ((with_reducible first | show wpAny _ _ (exec _ _) _ _ _ | show wpAny _ _ (execs _ _) _ _ _); k_fold) | (k_end; wrow_close) | walk1 | (dsimp only; walk1) | (leave1; (try dsimp only))))) <;> (repeat (k_unfold; (try dsimp only))))
    · rename Fr _ _ _ _ => F9
      rename News _ _ _ _ => N9
      have hx : step ^ (p / 2) < 16 ^ 6 := Nat.lt_of_lt_of_le (Nat.pow_lt_pow_left h2 (by omega)) (Nat.pow_le_pow_right (by omega) (by omega))
      have hx2 : step ^ (p / 2) < 2 ^ 59 := Nat.lt_trans hx (by decide)
      have hp59 : p < 2 ^ 59 := Nat.lt_of_le_of_lt hp3.2 (by decide)
      have off9 := tabs_off S3 S4 (by decide) (by decide +kernel) (fun q hq => (N9 q (.tail _ (.tail _ (List.mem_append_left _ hq)))).1) (fun q hq => (N9 q (.tail _ (.tail _ (List.mem_append_right _ hq)))).1)
      refine use_g (int_divmod_c w _ _ _ _ T3 T4 S3 S4 (by omega) (by simpa using hx2) (by simpa using hp59)) (oth := [(I, oI), (Dt, dO)]) B F9 X N9 T rfl rfl (fun q hq => .tail _ (.tail _ hq)) ?_ offo (by k_room) (by k_units) ?_
      · exact List.forall_mem_cons.mpr ⟨.head _, List.forall_mem_cons.mpr ⟨.tail _ (.head _), List.forall_mem_nil _⟩⟩
      rintro v2 blk2 h9 tk9 F10 N10 ne10 - ⟨T9, T3', T4', tq9, tr9, rfl, S3', S4', rfl⟩
      rw [← Int.natCast_emod] at N10
      obtain ⟨r, hr⟩ : ∃ r, r = step ^ (p / 2) % p := ⟨_, rfl⟩
      rw [← hr] at N10 hEp
      replace N10 := cb_drop (news := (T9, { cls := Value.type "tuple", data := Data.seq #[Value.int (((step ^ (p / 2) : Nat) : Int) / (p : Int)) tq9, Value.int (r : Int) tr9] }) :: (I, oI) :: (Dt, dO) :: (T3' ++ T4')) N10 (fun q hq => by
        rcases List.mem_cons.mp hq with rfl | hq
        · exact .head _
        · rcases List.mem_cons.mp hq with rfl | hq
          · exact List.mem_append_right _ (.head _)
          · rcases List.mem_cons.mp hq with rfl | hq
            · exact List.mem_append_right _ (.tail _ (.head _))
            · exact List.mem_append_left _ (.tail _ hq))
      clear F9 N9
      try clear F8 N8
      (try dsimp only)
      ((repeat' ((fail_if_success (with_reducible show Left _)); (first | (k_unfold; (try dsimp only)) | ((with_reducible first | show wpAny _ _ (exec _ _) _ _ _ | show wpAny _ _ (execs _ _) _ _ _); k_fold) | (k_end; wrow_close) | walk1 | (dsimp only; walk1) | (leave1; (try dsimp only))))) <;> (repeat (k_unfold; (try dsimp only))))
      · have hm0 : n % p = 0 := by omega
        (try dsimp only)
        unfold Left
        rename Fr _ _ _ _ => F11
        rename News _ _ _ _ => N11
        obtain ⟨f', rfl⟩ : ∃ f', f = f' + 1 := ⟨f - 1, by omega⟩
        have hnp : n / p < n := Nat.div_lt_self hn0 (by omega)
        refine' ⟨n / p, _, (I, oI) :: (Dt, dO) :: (T3' ++ T4'), _, _, hnp, rfl, F11, fun q hq => N11 q (.tail _ hq), T3', T4', _, f', _, _, _, S3', S4', ?hw, Nat.div_pos (Nat.le_of_dvd hn0 (Nat.dvd_of_mod_eq_zero hm0)) (by omega), by omega, by omega, fun q hq r hr => (ne10 r (.tail _ hr) q hq).symm, fun q hq => hq, ?meq⟩
        case meq => (intro y; unfold cm; (rcases Classical.em (y = "p") with rfl | h0); exact rfl; (rcases Classical.em (y = "rest") with rfl | h1); exact rfl; (rcases Classical.em (y = "left") with rfl | h2); exact rfl; (rcases Classical.em (y = "character") with rfl | h3); exact rfl; (rcases Classical.em (y = "size") with rfl | h4); exact rfl; (rcases Classical.em (y = "step") with rfl | h5); exact rfl; (try simp only [if_neg h0, if_neg h1, if_neg h2, if_neg h3, if_neg h4, if_neg h5]); (first | done | exact rfl | (show List.lookup y (_ :: _) = none; simp only [List.lookup, beq_eq_false_iff_ne.mpr h0, beq_eq_false_iff_ne.mpr h1, beq_eq_false_iff_ne.mpr h2, beq_eq_false_iff_ne.mpr h3, beq_eq_false_iff_ne.mpr h4, beq_eq_false_iff_ne.mpr h5]) | (simp only [List.lookup, beq_eq_false_iff_ne.mpr h0, beq_eq_false_iff_ne.mpr h1, beq_eq_false_iff_ne.mpr h2, beq_eq_false_iff_ne.mpr h3, beq_eq_false_iff_ne.mpr h4, beq_eq_false_iff_ne.mpr h5]; done)))
        case hw =>
          rw [← hw, whl_turn hm0, show leg step p = -1 from by unfold leg; rw [← hr, if_pos (by omega)]]
          rw [Int.mul_neg, Int.mul_one]
      · have hm0 : n % p = 0 := by omega
        (try dsimp only)
        unfold Left
        rename Fr _ _ _ _ => F11
        rename News _ _ _ _ => N11
        obtain ⟨f', rfl⟩ : ∃ f', f = f' + 1 := ⟨f - 1, by omega⟩
        have hnp : n / p < n := Nat.div_lt_self hn0 (by omega)
        refine' ⟨n / p, _, (I, oI) :: (Dt, dO) :: (T3' ++ T4'), _, _, hnp, rfl, F11, fun q hq => N11 q (.tail _ hq), T3', T4', _, f', _, _, _, S3', S4', ?hw, Nat.div_pos (Nat.le_of_dvd hn0 (Nat.dvd_of_mod_eq_zero hm0)) (by omega), by omega, by omega, fun q hq r hr => (ne10 r (.tail _ hr) q hq).symm, fun q hq => hq, ?meq⟩
        case meq => (intro y; unfold cm; (rcases Classical.em (y = "p") with rfl | h0); exact rfl; (rcases Classical.em (y = "rest") with rfl | h1); exact rfl; (rcases Classical.em (y = "left") with rfl | h2); exact rfl; (rcases Classical.em (y = "character") with rfl | h3); exact rfl; (rcases Classical.em (y = "size") with rfl | h4); exact rfl; (rcases Classical.em (y = "step") with rfl | h5); exact rfl; (try simp only [if_neg h0, if_neg h1, if_neg h2, if_neg h3, if_neg h4, if_neg h5]); (first | done | exact rfl | (show List.lookup y (_ :: _) = none; simp only [List.lookup, beq_eq_false_iff_ne.mpr h0, beq_eq_false_iff_ne.mpr h1, beq_eq_false_iff_ne.mpr h2, beq_eq_false_iff_ne.mpr h3, beq_eq_false_iff_ne.mpr h4, beq_eq_false_iff_ne.mpr h5]) | (simp only [List.lookup, beq_eq_false_iff_ne.mpr h0, beq_eq_false_iff_ne.mpr h1, beq_eq_false_iff_ne.mpr h2, beq_eq_false_iff_ne.mpr h3, beq_eq_false_iff_ne.mpr h4, beq_eq_false_iff_ne.mpr h5]; done)))
        case hw =>
          rw [← hw, whl_turn hm0, show leg step p = 0 from by unfold leg; rw [← hr, if_neg (by omega), if_pos (by omega)]]
          rw [Int.mul_zero]
      · exfalso; omega
      · have hm0 : n % p = 0 := by omega
        (try dsimp only)
        unfold Left
        rename Fr _ _ _ _ => F11
        rename News _ _ _ _ => N11
        obtain ⟨f', rfl⟩ : ∃ f', f = f' + 1 := ⟨f - 1, by omega⟩
        have hnp : n / p < n := Nat.div_lt_self hn0 (by omega)
        refine' ⟨n / p, _, (I, oI) :: (Dt, dO) :: (T3' ++ T4'), _, _, hnp, rfl, F11, fun q hq => N11 q (.tail _ hq), T3', T4', _, f', _, _, _, S3', S4', ?hw, Nat.div_pos (Nat.le_of_dvd hn0 (Nat.dvd_of_mod_eq_zero hm0)) (by omega), by omega, by omega, fun q hq r hr => (ne10 r (.tail _ hr) q hq).symm, fun q hq => hq, ?meq⟩
        case meq => (intro y; unfold cm; (rcases Classical.em (y = "p") with rfl | h0); exact rfl; (rcases Classical.em (y = "rest") with rfl | h1); exact rfl; (rcases Classical.em (y = "left") with rfl | h2); exact rfl; (rcases Classical.em (y = "character") with rfl | h3); exact rfl; (rcases Classical.em (y = "size") with rfl | h4); exact rfl; (rcases Classical.em (y = "step") with rfl | h5); exact rfl; (try simp only [if_neg h0, if_neg h1, if_neg h2, if_neg h3, if_neg h4, if_neg h5]); (first | done | exact rfl | (show List.lookup y (_ :: _) = none; simp only [List.lookup, beq_eq_false_iff_ne.mpr h0, beq_eq_false_iff_ne.mpr h1, beq_eq_false_iff_ne.mpr h2, beq_eq_false_iff_ne.mpr h3, beq_eq_false_iff_ne.mpr h4, beq_eq_false_iff_ne.mpr h5]) | (simp only [List.lookup, beq_eq_false_iff_ne.mpr h0, beq_eq_false_iff_ne.mpr h1, beq_eq_false_iff_ne.mpr h2, beq_eq_false_iff_ne.mpr h3, beq_eq_false_iff_ne.mpr h4, beq_eq_false_iff_ne.mpr h5]; done)))
        case hw =>
          rw [← hw, whl_turn hm0, show leg step p = 1 from by unfold leg; rw [← hr, if_neg (by omega), if_neg (by omega)]]
          rw [Int.mul_one]
    · have hm0 : n % p ≠ 0 := by omega
      (try dsimp only)
      ((repeat' ((fail_if_success (with_reducible show Left _)); (first | (k_unfold; (try dsimp only)) | ((with_reducible first | show wpAny _ _ (exec _ _) _ _ _ | show wpAny _ _ (execs _ _) _ _ _); k_fold) | (k_end; wrow_close) | walk1 | (dsimp only; walk1) | (leave1; (try dsimp only))))) <;> (repeat (k_unfold; (try dsimp only))))
      (try dsimp only)
      unfold Left
      rename Fr _ _ _ _ => F11
      rename News _ _ _ _ => N11
      refine' ⟨_, _, _, (Dt, dO) :: (T3 ++ T4), rfl, F11, News.outs (aa := [(Dt, dO)]) N11, ?off, T3, T4, n, c, t3, t4, _, rv, S3, S4, ?hc, hn0, hn16, fun r hr => (offo _ (.tail _ (.head _)) r hr).symm, fun q hq => hq, ?meq⟩
      case off => exact List.forall_mem_cons.mpr ⟨hID _ (.head _), fun r hr => (offo _ (.head _) r hr).symm⟩
      case hc => rw [hnext, ← hch0, ← hw, whl_stop hm0]
      case meq => (intro y; unfold cm; (rcases Classical.em (y = "p") with rfl | h0); exact rfl; (rcases Classical.em (y = "rest") with rfl | h1); exact rfl; (rcases Classical.em (y = "left") with rfl | h2); exact rfl; (rcases Classical.em (y = "character") with rfl | h3); exact rfl; (rcases Classical.em (y = "size") with rfl | h4); exact rfl; (rcases Classical.em (y = "step") with rfl | h5); exact rfl; (try simp only [if_neg h0, if_neg h1, if_neg h2, if_neg h3, if_neg h4, if_neg h5]); (first | done | exact rfl | (show List.lookup y (_ :: _) = none; simp only [List.lookup, beq_eq_false_iff_ne.mpr h0, beq_eq_false_iff_ne.mpr h1, beq_eq_false_iff_ne.mpr h2, beq_eq_false_iff_ne.mpr h3, beq_eq_false_iff_ne.mpr h4, beq_eq_false_iff_ne.mpr h5]) | (simp only [List.lookup, beq_eq_false_iff_ne.mpr h0, beq_eq_false_iff_ne.mpr h1, beq_eq_false_iff_ne.mpr h2, beq_eq_false_iff_ne.mpr h3, beq_eq_false_iff_ne.mpr h4, beq_eq_false_iff_ne.mpr h5]; done)))
  case done =>
    intro m₁ news₁ h6 tk6 hJ F6 N6
    obtain ⟨T3, T4, left, ch, t3, t4, pv, rv, S3, S4, hch, hl0, hl16, hoffD, hsub, hm⟩ := hJ
    have N7 := cb_drop N6 hsub
    have F7 := Fr.congr F6 hm
    clear F5 N5 N6 F6
    try clear F4 N4
    unfold cm at F7
    (try dsimp only)
    ((repeat' (first | (k_unfold; (try dsimp only)) | ((with_reducible first | show wpAny _ _ (exec _ _) _ _ _ | show wpAny _ _ (execs _ _) _ _ _); k_fold) | (k_end; wrow_close) | walk1 | (dsimp only; walk1) | (leave1; (try dsimp only)))) <;> (repeat (k_unfold; (try dsimp only))))
    (try dsimp only)
    rename Fr _ _ _ _ => F9
    rename News _ _ _ _ => N9
    have hch2 : chrOf size step = ch := congrArg Prod.snd hch
    refine ret _ (T3 ++ T4) _ _ F9.keep (fun r hr => ⟨(N9 r (.tail _ hr)).1, (N9 r (.tail _ hr)).2.2⟩) ⟨T3, T4, _, int_eq hch2.symm, S3, S4, rfl⟩
/-- the statements of law from the k-th on, and its scope -/
noncomputable def lawRest (o : Option Obj) (k : Nat) : Option (List Stmt × Scope) := match o with
  | some ⟨_, _, .func fd, _⟩ => (match fd.body with
    | .stmts b => some (b.drop k, fd.scope)
    | _ => none)
  | _ => none
theorem law_out {K : Frag} {f : Addr} {o : Obj} {i : Nat} {x : Option (List Stmt × Scope)} {P : Prop} (hl : K.lookup f = some o) (h : lawRest (K.lookup f) i = x) (k : lawRest (some o) i = x → P) : P := k (hl ▸ h)
/-- the locals of law -/
noncomputable def wl (script half text words once row character turned stairs crossed lead passed : Option Value) : Str → Option Value :=
  fun y => if y = "script" then script else if y = "half" then half else if y = "text" then text else if y = "words" then words else if y = "once" then once else if y = "row" then row else if y = "character" then character
    else if y = "turned" then turned else if y = "stairs" then stairs else if y = "crossed" then crossed else if y = "lead" then lead else if y = "passed" then passed else none
/-- what law hands back, and what stands at its end -/
noncomputable def LawEnd (h₀ : Heap) (L : Addr) (Q : Flow → Shared → Prop) (s : Shared) : Prop :=
  ∀ m' h' tk' p1 p2 p3, Fr h₀ L h' m' → News h₀ L h' [(173, tabObj p1), (44, tabObj p2), (37, tabObj p3)] → Q (.ret (.bool true)) { s with heap := h', toks := tk' }
noncomputable abbrev cellIs (o : Obj) (v : Option Value) : Prop := o.data = .cell v
theorem mach_ne {w : World} {a : LexA} {text : Str} {adr : List Addr} {RO : Nat → List (Addr × Obj) → Prop} {lin : Int} {wsp : Str} {ws : List Str} {p : Nat} {lin' wsp' : Value} {its : List Value} {k : Nat} {l : List (Addr × Obj)} {z : Addr} (M : MachSt w a RO lin wsp ws p (lexObjs w a lin' wsp' its k ++ l)) (Rd : Reader w a.rd text adr RO) (h : z ∉ a.adrs ++ adr) :
    a.x ≠ z ∧ a.dx ≠ z ∧ a.pb ≠ z ∧ a.st ≠ z ∧ a.std ≠ z ∧ ∀ q ∈ l, q.1 ≠ z :=
  ⟨of_adrs M Rd h (a.x, _) (.head _), of_adrs M Rd h (a.dx, _) (.tail _ (.head _)), of_adrs M Rd h (a.pb, _) (.tail _ (.tail _ (.head _))), of_adrs M Rd h (a.st, _) (.tail _ (.tail _ (.tail _ (.head _)))), of_adrs M Rd h (a.std, _) (.tail _ (.tail _ (.tail _ (.tail _ (.head _))))), fun q hq => of_adrs M Rd h q (List.mem_append_right _ hq)⟩
theorem kn37 {L : Addr} (h : 173 < L) : @LT.lt Nat _ 173 L := h
theorem tab_fields {P line col : Nat} {qual : Str} {tb : List (Addr × Obj)} (S : TabSt P line col qual tb) : ∀ p ∈ tb, ∃ vs, p.2.data = .fields vs := by
  rcases S with rfl | ⟨c, oc, vs, t, rfl, h1, h2, -⟩
  · exact List.forall_mem_cons.mpr ⟨⟨_, rfl⟩, List.forall_mem_nil _⟩
  · exact List.forall_mem_cons.mpr ⟨⟨_, rfl⟩, List.forall_mem_cons.mpr ⟨⟨_, h1⟩, List.forall_mem_nil _⟩⟩
section
variable {w : World} {dp un : Nat} {gd : Option (List Code)} {env : Env} {outer : List Env} {A₀ : Around} {base h₀ : Heap} {L : Addr} {m : Str → Option Value} {tp : Program} {tl : List Str} {mean : ExcName → Option Value} {mg mb : Str → Option Value} {s : Shared} {Q E : Value → Shared → Prop}
  {aa T3 T4 : List (Addr × Obj)}
theorem dm_use {a b : Int} {ta tb : Tok} (S3 : TabSt 37 35 4 "_int2digits.<locals>.inner" T3) (S4 : TabSt 44 50 4 "_digits2int.<locals>.inner" T4) (off : ∀ q ∈ aa, ∀ r ∈ T3 ++ T4, q.1 ≠ r.1)
    (hb : 0 < b) (ha : a.natAbs < 2 ^ 59) (hb2 : b.natAbs < 2 ^ 59)
    (B : Below A₀ base outer h₀) (F : Fr h₀ L s.heap m) (X : (hd.heap_1 w.params).In h₀) (N : News h₀ L s.heap (aa ++ (T3 ++ T4))) (T : Top tp tl mean mg mb h₀) (hf : env.frame = some L) (hke : env.scope.kind = .function)
    (hd : dp + 105 < recursionLimit) (hu : un + 700 < cLine)
    (ret : ∀ D T3' T4' tq tr h' tk', TabSt 37 35 4 "_int2digits.<locals>.inner" T3' → TabSt 44 50 4 "_digits2int.<locals>.inner" T4' → (∀ q ∈ aa, ∀ r ∈ T3' ++ T4', q.1 ≠ r.1) → (∀ q ∈ aa, D ≠ q.1) → (∀ r ∈ T3' ++ T4', D ≠ r.1) → Fr h₀ L h' m →
      News h₀ L h' ((D, { cls := .type "tuple", data := .seq #[.int (a / b) tq, .int (a % b) tr] }) :: (aa ++ (T3' ++ T4'))) → Q (.ref D) { s with heap := h', toks := tk' }) :
    wpAny (model Challenge.rw_pe0259_01.row.prog w) (Ar dp un gd (env :: outer)) (call (.ref 63) [.int a ta, .int b tb]) Q E s := by
  refine use_g (int_divmod_c w a b ta tb T3 T4 S3 S4 hb ha hb2) (oth := aa) B F X N T hf hke (fun q hq => List.mem_append_right _ hq) (fun q hq => List.mem_append_left _ hq) off (by omega) (by omega) ?_
  rintro v blk h' tk' F' N' ne - ⟨D, T3', T4', tq, tr, rfl, S3', S4', rfl⟩
  refine ret D T3' T4' tq tr h' tk' S3' S4' (fun q hq r hr => (ne r (.tail _ hr) q hq).symm) (fun q hq => ne _ (.head _) q hq) (fun r hr e => ?_) F' (fun q hq => ?_)
  · have h1 := (N' (D, _) (.head _)).1
    have h2 := (N' r (List.mem_append_left _ (.tail _ hr))).1
    simp only at h1
    rw [e, h2] at h1
    have h3 := Option.some.inj h1
    have h4 : ∃ vs, r.2.data = .fields vs := by
      rcases List.mem_append.mp hr with hr | hr
      · exact tab_fields S3' r hr
      · exact tab_fields S4' r hr
    obtain ⟨vs, h4⟩ := h4
    rw [h3] at h4
    cases h4
  · rcases List.mem_cons.mp hq with rfl | hq
    · exact N' _ (.head _)
    · rcases List.mem_append.mp hq with hq | hq
      · exact N' q (List.mem_append_right _ hq)
      · exact N' q (List.mem_append_left _ (.tail _ hq))
end
section
variable {w : World} {dp un : Nat} {gd : Option (List Code)} {env : Env} {outer : List Env} {A₀ : Around} {base h₀ : Heap} {L : Addr} {m : Str → Option Value} {tp : Program} {tl : List Str} {mean : ExcName → Option Value} {mg mb : Str → Option Value} {s : Shared} {Q E : Value → Shared → Prop}
  {aa T3 T4 : List (Addr × Obj)}
theorem chr_use {size step : Nat} {t1 t2 : Tok} (S3 : TabSt 37 35 4 "_int2digits.<locals>.inner" T3) (S4 : TabSt 44 50 4 "_digits2int.<locals>.inner" T4) (off : ∀ q ∈ aa, ∀ r ∈ T3 ++ T4, q.1 ≠ r.1)
    (h0 : 0 < size) (h1 : size < 16) (h2 : step < 16) (hE : ∀ p ∈ [3, 5, 7, 11, 13], step ^ (p / 2) % p = 0 ∨ step ^ (p / 2) % p = 1 ∨ step ^ (p / 2) % p = p - 1)
    (B : Below A₀ base outer h₀) (F : Fr h₀ L s.heap m) (X : (hd.heap_1 w.params).In h₀) (N : News h₀ L s.heap (aa ++ (T3 ++ T4))) (T : Top tp tl mean mg mb h₀) (hf : env.frame = some L) (hke : env.scope.kind = .function)
    (hd : dp + 120 < recursionLimit) (hu : un + 800 < cLine)
    (ret : ∀ t T3' T4' h' tk', TabSt 37 35 4 "_int2digits.<locals>.inner" T3' → TabSt 44 50 4 "_digits2int.<locals>.inner" T4' → (∀ q ∈ aa, ∀ r ∈ T3' ++ T4', q.1 ≠ r.1) → Fr h₀ L h' m →
      News h₀ L h' (aa ++ (T3' ++ T4')) → Q (.int (chrOf size step) t) { s with heap := h', toks := tk' }) :
    wpAny (model Challenge.rw_pe0259_01.row.prog w) (Ar dp un gd (env :: outer)) (call (.ref 204) [.int (size : Int) t1, .int (step : Int) t2]) Q E s := by
  refine use_g (character_c w size step t1 t2 T3 T4 S3 S4 h0 h1 h2 hE) (oth := aa) B F X N T hf hke (fun q hq => List.mem_append_right _ hq) (fun q hq => List.mem_append_left _ hq) off (by omega) (by omega) ?_
  rintro v blk h' tk' F' N' ne - ⟨T3', T4', t, rfl, S3', S4', rfl⟩
  exact ret t T3' T4' h' tk' S3' S4' (fun q hq r hr => (ne r hr q hq).symm) F' (News.swap N')
end
theorem ws_9 : inWs "\n\t\r " 9 = true := by decide +kernel
theorem ws_10 : inWs "\n\t\r " 10 = true := by decide +kernel
theorem ws_34 : inWs "\n\t\r " 34 = false := by decide +kernel
theorem ws_92 : inWs "\n\t\r " 92 = false := by decide +kernel
theorem ws_101 : inWs "\n\t\r " 101 = false := by decide +kernel
theorem ws_110 : inWs "\n\t\r " 110 = false := by decide +kernel
theorem ws_100 : inWs "\n\t\r " 100 = false := by decide +kernel
theorem blank_add (a : List Nat) (k : Nat) : Tx a ++ (⟨#[32]⟩ : Str) ++ blank k = Tx a ++ blank (k + 1) := by
  show Tx a ++ Tx [32] ++ Tx _ = Tx a ++ Tx _
  rw [Tx_app, Tx_app, Tx_app, List.append_assoc]; rfl
theorem lexQ_plain (rest : List Nat) (k : Nat) : ∀ a : List Nat, lexQ (List.replicate k 32 ++ 34 :: rest) (Tx a) = (Tx a ++ blank k, rest) := by
  induction k with
  | zero => intro a; rw [List.replicate_zero, List.nil_append, lexQ_cons, if_pos rfl]; simp [Tx_app]
  | succ k ih =>
    intro a
    rw [List.replicate_succ, List.cons_append, lexQ_cons, if_neg (by decide), if_neg (by decide)]
    have := ih (a ++ [32])
    rw [← Tx_app] at this
    exact this.trans (by rw [show Tx [32] = (⟨#[32]⟩ : Str) from rfl, blank_add])
theorem lexQ_esc' (rest : List Nat) (k : Nat) : ∀ a : List Nat, lexQ ((List.replicate k [92, 32]).flatten ++ 34 :: rest) (Tx a) = (Tx a ++ blank k, rest) := by
  induction k with
  | zero => intro a; rw [List.replicate_zero, List.flatten_nil, List.nil_append, lexQ_cons, if_pos rfl]; simp [Tx_app]
  | succ k ih =>
    intro a
    rw [List.replicate_succ, List.flatten_cons, List.cons_append, List.cons_append, lexQ_cons, if_neg (by decide), if_pos rfl]
    have := ih (a ++ [32])
    rw [← Tx_app] at this
    exact this.trans (by rw [show Tx [32] = (⟨#[32]⟩ : Str) from rfl, blank_add])
theorem lexW_esc' (rest : List Nat) (k : Nat) : ∀ a : List Nat, lexW "\n\t\r " ((List.replicate k [92, 32]).flatten ++ 10 :: rest) (Tx a) = (Tx a ++ blank k, rest) := by
  induction k with
  | zero => intro a; rw [List.replicate_zero, List.flatten_nil, List.nil_append, lexW_cons, ws_10, if_pos rfl]; simp [Tx_app]
  | succ k ih =>
    intro a
    rw [List.replicate_succ, List.flatten_cons, List.cons_append, List.cons_append, lexW_cons, ws_92, if_neg (by decide), if_pos rfl]
    have := ih (a ++ [32])
    rw [← Tx_app] at this
    exact this.trans (by rw [show Tx [32] = (⟨#[32]⟩ : Str) from rfl, blank_add])
theorem Tx_nil_app (x : List Nat) : Tx [] ++ Tx x = Tx x := by rw [Tx_app, List.nil_append]
/-- what may be left of a word as it is written -/
noncomputable def preL (pre : List Nat) : Prop := pre = [] ∨ pre = [9]
theorem lex_pre {pre : List Nat} (h : preL pre) (cs : List Nat) : lex0 "\n\t\r " (pre ++ cs) = lex0 "\n\t\r " cs := by
  rcases h with rfl | rfl
  · rfl
  · rw [List.cons_append, lex0_cons, ws_9, if_pos rfl]; rfl
theorem lex_spell (k : Nat) (m : Int) (rest : List Nat) : ∃ pre, preL pre ∧ lex0 "\n\t\r " (spellL k m ++ rest) = (blank k, pre ++ rest) := by
  unfold spellL
  split
  · refine ⟨[], .inl rfl, ?_⟩
    rw [List.cons_append, List.append_assoc, lex0_cons, ws_34, if_neg (by decide), if_pos rfl, show ("" : Str) = Tx [] from lit_e]
    exact (lexQ_plain rest k []).trans (by rw [Tx_nil_app]; rfl)
  · rename_i h
    obtain ⟨j, rfl⟩ : ∃ j, k = j + 1 := ⟨k - 1, by omega⟩
    split
    · refine ⟨[], .inl rfl, ?_⟩
      rw [List.replicate_succ, List.flatten_cons, List.append_assoc, List.cons_append, List.cons_append, lex0_cons, ws_92, if_neg (by decide), if_neg (by decide), if_pos rfl]
      have := lexW_esc' rest j [32]
      rw [show ("" : Str) = Tx [] from lit_e]
      show lexW _ ((List.replicate j [92, 32]).flatten ++ 10 :: rest) (Tx [] ++ Tx [32]) = _
      rw [Tx_nil_app]
      exact this.trans (by rw [Tx_app]; rfl)
    · refine ⟨[9], .inr rfl, ?_⟩
      rw [List.cons_append, List.append_assoc, lex0_cons, ws_34, if_neg (by decide), if_pos rfl, show ("" : Str) = Tx [] from lit_e]
      have := lexQ_esc' (9 :: rest) (j + 1) []
      exact this.trans (by rw [Tx_nil_app]; rfl)
theorem lex_end : lex0 "\n\t\r " [101, 110, 100] = (Tx [101, 110, 100], []) := by
  rw [lex0_cons, ws_101, if_neg (by decide), if_neg (by decide), if_neg (by decide), lexW_cons, ws_110, if_neg (by decide), if_neg (by decide), lexW_cons, ws_100, if_neg (by decide), if_neg (by decide), show ("" : Str) = Tx [] from lit_e]
  show (Tx [] ++ Tx [101] ++ Tx [110] ++ Tx [100], _) = _
  rw [Tx_app, Tx_app, Tx_app]; rfl
theorem lex_nil : lex0 "\n\t\r " [] = (Tx [], []) := by rw [← lit_e]; rfl
/-- the words from the i-th on, as they are written, and end -/
noncomputable def restW (n : Nat) (b : Int) (i : Nat) : List Nat := ((textW n b).drop i).flatten ++ [101, 110, 100]
theorem restW_zero (n : Nat) (b : Int) : restW n b 0 = textL n b := rfl
theorem restW_succ {n : Nat} {b : Int} {i : Nat} (h : i < n) : restW n b i = spellL i ((b + (i : Int)) % 3) ++ restW n b (i + 1) := by
  unfold restW textW
  rw [List.drop_eq_getElem_cons (by simpa using h), List.flatten_cons, List.append_assoc]
  simp
theorem restW_end (n : Nat) (b : Int) : restW n b n = [101, 110, 100] := by
  unfold restW textW
  rw [List.drop_of_length_le (by simp)]; rfl
theorem Off1_mem {D : Addr} : ∀ {l : List (Addr × Obj)}, LCg.Off1 D l → ∀ p ∈ l, p.1 ≠ D
  | [], _, _, h => nomatch h
  | _ :: _, x, p, h => by
    rcases List.mem_cons.mp h with rfl | h
    · exact x.1
    · exact Off1_mem x.2 p h
theorem mem_skip {α : Type} {x : α} {c : List α} (a : List α) (h : x ∈ c) : x ∈ a ++ c := List.mem_append_right a h
theorem strOk_T {x : List Nat} (h : ∀ c ∈ x, c < 0x110000) : PyData.strOk (Tx x) = true := by
  unfold PyData.strOk Tx
  simp only [List.all_toArray, List.all_eq_true, decide_eq_true_eq]
  exact h
theorem ok_blank (k : Nat) : PyData.strOk (blank k) = true := strOk_T fun c hc => by rw [(List.mem_replicate.mp hc).2]; decide
theorem ok_blanks (n : Nat) : ∀ x ∈ (List.range n).map blank, PyData.strOk x = true := fun x hx => by
  obtain ⟨k, _, rfl⟩ := List.mem_map.mp hx
  exact ok_blank k
theorem ok_dealt {ws : List Str} (st n : Nat) (h : ∀ x ∈ ws, PyData.strOk x = true) : ∀ x ∈ dealtTo ws st n, PyData.strOk x = true := fun x hx => by
  obtain ⟨k, _, rfl⟩ := List.mem_map.mp hx
  rw [List.getD_eq_getElem?_getD]
  rcases e : ws[k * st % ws.length]? with _ | y
  · show PyData.strOk Str.empty = true
    decide +kernel
  · exact h y (List.mem_of_getElem? e)
theorem News.mid {h₀ h : Heap} {L : Addr} {a b c : List (Addr × Obj)} (N : News h₀ L h (a ++ (b ++ c))) : News h₀ L h ((a ++ c) ++ b) := fun p hp => by
  rcases List.mem_append.mp hp with hp | hp
  · rcases List.mem_append.mp hp with hp | hp
    · exact N p (List.mem_append_left _ hp)
    · exact N p (List.mem_append_right _ (List.mem_append_right _ hp))
  · exact N p (List.mem_append_right _ (List.mem_append_left _ hp))
theorem News.unmid {h₀ h : Heap} {L : Addr} {a b c : List (Addr × Obj)} (N : News h₀ L h ((a ++ c) ++ b)) : News h₀ L h (a ++ (b ++ c)) := fun p hp => by
  rcases List.mem_append.mp hp with hp | hp
  · exact N p (List.mem_append_left _ (List.mem_append_left _ hp))
  · rcases List.mem_append.mp hp with hp | hp
    · exact N p (List.mem_append_right _ hp)
    · exact N p (List.mem_append_left _ (List.mem_append_right _ hp))
theorem mul_small {prog : Program} {w : World} {A : Around} {E : Value → Shared → Prop} {s : Shared} {t u : Tok} {Q : Value → Shared → Prop} {x y : Int} (hx : -100000 ≤ x ∧ x ≤ 100000) (h : Q (.int (x * y) s.toks) { s with toks := s.toks + 1 }) :
    wpAny (model prog w) A (binaryOp .Mult (.int x t) (.int y u)) Q E s := mul_int h (PySem.IntMulOk.of_left (PySem.intBits_le_64 (by omega) (by omega)))
theorem fst_forall {P : Addr → Prop} {l l' : List (Addr × Obj)} (e : l.map Prod.fst = l'.map Prod.fst) (h : ∀ q ∈ l, P q.1) : ∀ q ∈ l', P q.1 := fun q hq => by
  have h1 : q.1 ∈ l'.map Prod.fst := List.mem_map_of_mem hq
  rw [← e] at h1
  obtain ⟨r, hr, er⟩ := List.mem_map.mp h1
  rw [← er]; exact h r hr
theorem blanks_get (n j : Nat) (h : j < n) : ((List.range n).map blank).getD j Str.empty = blank j := by
  rw [List.getD_eq_getElem?_getD]; simp [h]
/-- how many blanks the word at place k of the row has -/
noncomputable def rowQ (n : Nat) (pr : Int) (k : Nat) : Nat := ((k : Int) * pr % (n : Int)).toNat
theorem rowQ_lt {n : Nat} (hn : 0 < n) (pr : Int) (k : Nat) : rowQ n pr k < n := by
  unfold rowQ
  have := Int.emod_lt_of_pos ((k : Int) * pr) (b := (n : Int)) (by omega)
  have := Int.emod_nonneg ((k : Int) * pr) (b := (n : Int)) (by omega)
  omega
theorem rowQ_eq {n f1 f2 k : Nat} {t1 t2 : Int} (hn : 0 < n) (h1 : (t1 - 1) % (n : Int) = (f1 : Int)) (h2 : (t2 - 1) % (n : Int) = (f2 : Int)) : (k * (f2 + 1) % n) * (f1 + 1) % n = rowQ n (t1 * t2) k := by
  have e1 : t1 = (n : Int) * ((t1 - 1) / n) + ((f1 : Int) + 1) := by have := Int.mul_ediv_add_emod (t1 - 1) n; omega
  have e2 : t2 = (n : Int) * ((t2 - 1) / n) + ((f2 : Int) + 1) := by have := Int.mul_ediv_add_emod (t2 - 1) n; omega
  have e3 : ((k : Int) * (t1 * t2)) % (n : Int) = ((k * (f2 + 1) * (f1 + 1) % n : Nat) : Int) := by
    generalize (t1 - 1) / (n : Int) = c1 at e1
    generalize (t2 - 1) / (n : Int) = c2 at e2
    rw [e1, e2]
    have : (k : Int) * (((n : Int) * c1 + ((f1 : Int) + 1)) * ((n : Int) * c2 + ((f2 : Int) + 1))) = ((k * (f2 + 1) * (f1 + 1) : Nat) : Int) + (n : Int) * ((k : Int) * (c1 * ((n : Int) * c2 + ((f2 : Int) + 1)) + ((f1 : Int) + 1) * c2)) := by
      push_cast
      simp only [Int.add_mul, Int.mul_add, Int.mul_one, Int.one_mul]
      simp only [Int.mul_comm, Int.mul_left_comm, Int.mul_assoc, Int.add_comm, Int.add_left_comm, Int.add_assoc]
    rw [this, Int.add_mul_emod_self_left]
    exact (Int.natCast_emod _ _).symm
  unfold rowQ
  rw [e3, Int.toNat_natCast, Nat.mod_mul_mod]
theorem row_eq {n f1 f2 : Nat} {t1 t2 : Int} (hn : 0 < n) (h1 : (t1 - 1) % (n : Int) = (f1 : Int)) (h2 : (t2 - 1) % (n : Int) = (f2 : Int)) :
    dealtTo (dealtTo ((List.range n).map blank) (f1 + 1) n) (f2 + 1) n = (List.range n).map fun k => blank (rowQ n (t1 * t2) k) := by
  have hl1 : ((List.range n).map blank).length = n := by simp
  have hl2 : (dealtTo ((List.range n).map blank) (f1 + 1) n).length = n := by simp [dealtTo]
  have e1 : ∀ j, j < n → (dealtTo ((List.range n).map blank) (f1 + 1) n).getD j Str.empty = blank (j * (f1 + 1) % n) := fun j hj => by
    rw [List.getD_eq_getElem?_getD]
    unfold dealtTo
    rw [hl1]
    simp only [List.getElem?_map, List.getElem?_range hj, Option.map_some, Option.getD_some]
    exact blanks_get n _ (Nat.mod_lt _ hn)
  unfold dealtTo at e1 ⊢
  apply List.map_congr_left
  intro k hk
  unfold dealtTo at hl2
  rw [hl2, e1 _ (Nat.mod_lt _ hn), rowQ_eq hn h1 h2]
open PySem.StrLaws PySem.Builtin.Str
theorem occ_cnt (x : Str) (c : Nat) : ∀ (m a free : Nat) (found : Array Nat), free ≤ a → found.size ≤ a → a + m ≤ x.length + 1 →
    (forIn (List.range' a m) (found, free) (occBody x ⟨#[c]⟩ x.length (x.length + 1))).run.fst.size = found.size + ((x.cps.toList.drop a).take m).count c
  | 0, a, free, found, _, _, _ => by simp
  | m + 1, a, free, found, h1, h2, h3 => by
    rw [List.range'_succ, List.forIn_cons]
    unfold occBody
    by_cases hc : x.cps.toList[a]? = some c
    · obtain ⟨hlt, hx⟩ := List.getElem?_eq_some_iff.mp hc
      have hs := (subAt_one x c a).mpr hc
      rw [if_pos ⟨⟨⟨by show found.size < _; omega, h1⟩, hs.1⟩, hs.2⟩]
      have ih := occ_cnt x c m (a + 1) (a + 1) (found.push a) (Nat.le_refl _) (by rw [Array.size_push]; omega) (by omega)
      rw [List.drop_eq_getElem_cons hlt, List.take_succ_cons, hx, List.count_cons_self]
      have e : (found.push a).size = found.size + 1 := Array.size_push ..
      rw [e] at ih
      exact ih.trans (by omega)
    · have hs : ¬ ((((found, free).fst.size < x.length + 1 ∧ (found, free).snd ≤ a) ∧ a + (⟨#[c]⟩ : Str).length ≤ x.length) ∧ subAt x ⟨#[c]⟩ a = true) := fun h => hc ((subAt_one x c a).mp ⟨h.1.2, h.2⟩)
      rw [if_neg hs]
      have ih := occ_cnt x c m (a + 1) free found (by omega) (by omega) (by omega)
      have e : ((x.cps.toList.drop a).take (m + 1)).count c = ((x.cps.toList.drop (a + 1)).take m).count c := by
        rcases Nat.lt_or_ge a x.cps.toList.length with hlt | hge
        · rw [List.drop_eq_getElem_cons hlt, List.take_succ_cons, List.count_cons_of_ne]
          intro e
          exact hc (by rw [List.getElem?_eq_getElem hlt, e])
        · rw [List.drop_of_length_le hge, List.drop_of_length_le (by omega)]; simp
      rw [e]
      exact ih
theorem count_one (x : Str) (c : Nat) : Txt.count x ⟨#[c]⟩ = ((x.cps.toList.count c : Nat) : Int) := by
  unfold Txt.count
  rw [occ_eq, Array.length_toList, occ_cnt x c _ 0 0 #[] (Nat.le_refl _) (Nat.zero_le _) (by omega)]
  have : (x.cps.toList.take (x.length + 1)) = x.cps.toList := List.take_of_length_le (by rw [← len_cps]; omega)
  simp [this]
theorem nl_all {x : Str} {p : Nat} {pre : List Nat} (hpre : preL pre) (h : codes x p = pre ++ [101, 110, 100]) : nlTo x p = ((x.cps.toList.count 10 : Nat) : Int) := by
  unfold nlTo
  have e : x.cps.toList.count 10 = (x.cps.toList.take p).count 10 + (codes x p).count 10 := by
    rw [← List.count_append, List.take_append_drop]
  have e2 : (codes x p).count 10 = 0 := by
    rw [h]
    rcases hpre with rfl | rfl <;> decide
  rw [e, e2]; rfl
/-- the blanks of a word, turned when it is longer than half the size -/
noncomputable def turnL (n q : Nat) : List Nat := List.replicate (if 2 * q < n then q else n - q) 32
theorem turn_eq {n q : Nat} : (if 2 * q < n then blank q else blank (n - q)) = Tx (turnL n q) := by unfold turnL; split <;> rfl
theorem turnL_len {n q : Nat} (h : q < n) : (turnL n q).length ≤ n := by unfold turnL; rw [List.length_replicate]; split <;> omega
noncomputable def turnT (n st : Nat) : List (List Nat) := (List.range (n / 2)).map fun j => turnL n ((j + 1) * st % n) ++ [9]
theorem turnT_len {n st : Nat} (hn : 0 < n ∧ n ≤ 15) : (turnT n st).flatten.length ≤ 200 := by
  have := flat_le (b := 16) (turnT n st) (fun x hx => by
    obtain ⟨j, _, rfl⟩ := List.mem_map.mp hx
    have := turnL_len (n := n) (q := (j + 1) * st % n) (Nat.mod_lt _ (by omega))
    simp; omega)
  have h2 : (turnT n st).length = n / 2 := by unfold turnT; simp
  rw [h2] at this
  omega
/-- the stairs: 1, 2 .. blanks, a tab behind each -/
noncomputable def stairT (n : Nat) : List (List Nat) := (List.range (n / 2)).map fun j => List.replicate (j + 1) 32 ++ [9]
theorem stairT_len {n : Nat} (hn : n ≤ 15) : (stairT n).flatten.length ≤ 200 := by
  have := flat_le (b := 16) (stairT n) (fun x hx => by
    obtain ⟨j, hj, rfl⟩ := List.mem_map.mp hx
    have := List.mem_range.mp hj
    simp; omega)
  have h2 : (stairT n).length = n / 2 := by unfold stairT; simp
  rw [h2] at this
  omega
theorem ws_of_parts {xs : List (List Nat)} (h : ∀ x ∈ xs, ∃ k, x = List.replicate k 32 ++ [9]) : ∀ c ∈ xs.flatten, c = 32 ∨ c = 9 := fun c hc => by
  obtain ⟨x, hx, hcx⟩ := List.mem_flatten.mp hc
  obtain ⟨k, rfl⟩ := h x hx
  rcases List.mem_append.mp hcx with h | h
  · exact .inl (List.mem_replicate.mp h).2
  · exact .inr (List.mem_singleton.mp h)
theorem turn_ws (n st : Nat) : ∀ c ∈ (turnT n st).flatten, c = 32 ∨ c = 9 := ws_of_parts fun x hx => by
  obtain ⟨j, _, rfl⟩ := List.mem_map.mp hx
  exact ⟨_, rfl⟩
theorem stair_ws (n : Nat) : ∀ c ∈ (stairT n).flatten, c = 32 ∨ c = 9 := ws_of_parts fun x hx => by
  obtain ⟨j, _, rfl⟩ := List.mem_map.mp hx
  exact ⟨_, rfl⟩
/-- the two leads are the same -/
noncomputable def eqv (n st : Nat) : Bool := decide ((wsOf (turnT n st).flatten).count = (wsOf (stairT n).flatten).count ∧ ((wsOf (turnT n st).flatten).b : Int) = (wsOf (stairT n).flatten).b)
noncomputable def sizes : List Nat := [3, 5, 7, 9, 11, 13, 15]
theorem size_mem {n : Nat} (h : 3 ≤ n ∧ n ≤ 15 ∧ n % 2 = 1) : n ∈ sizes :=
  (by decide +kernel : ∀ n : Nat, n < 16 → (3 ≤ n ∧ n ≤ 15 ∧ n % 2 = 1) → n ∈ sizes) n (Nat.lt_succ_of_le h.2.1) h
theorem eqv_all : (sizes.all fun n => (List.range n).all fun st => eqv n st == !(chrOf n st == 0)) = true := by decide +kernel
theorem eqv_ok {n st : Nat} (h : 3 ≤ n ∧ n ≤ 15 ∧ n % 2 = 1) (hs : st < n) : eqv n st = !(chrOf n st == 0) := by
  have := List.all_eq_true.mp (List.all_eq_true.mp eqv_all n (size_mem h)) st (List.mem_range.mpr hs)
  exact eq_of_beq this
open LCg
section
variable {prog : Program} {w : World} {A : Around} {E : Value → Shared → Prop} {R : Result → Shared → Prop} {s : Shared} {h₀ : Heap} {L : Addr} {m : Str → Option Value} {env : Env}
theorem compTurn_two0 (elt t1 it1 t2 it2 ct : Expr) (scope : Scope) (pos : Pos) (it acc : Value) (env : Env) :
    compTurn (.ListComp elt [⟨t1, it1, [], 0⟩, ⟨t2, it2, [ct], 0⟩] scope pos) 0 it acc env = (do
      standAt it1.pos
      match ← pyNext it with
      | none => pure (.done .next)
      | some v =>
        letOwnedTupleGo t1 it v
        assign t1 env v
        let x ← eval it2 env
        standAt it2.pos
        let x ← foldedSetIterable it2 env x
        let _ ← runOwn (.compStart (.ListComp elt [⟨t1, it1, [], 0⟩, ⟨t2, it2, [ct], 0⟩] scope pos) 1 (← holding [x] (pyIter x)) acc env) env
        again (.compLoop (.ListComp elt [⟨t1, it1, [], 0⟩, ⟨t2, it2, [ct], 0⟩] scope pos) 0 it acc env)) := by rfl
theorem compTurn_two1 (elt t1 it1 t2 it2 ct : Expr) (scope : Scope) (pos : Pos) (it acc : Value) (env : Env) :
    compTurn (.ListComp elt [⟨t1, it1, [], 0⟩, ⟨t2, it2, [ct], 0⟩] scope pos) 1 it acc env = (do
      standAt it2.pos
      match ← pyNext it with
      | none => pure (.done .next)
      | some v =>
        letOwnedTupleGo t2 it v
        assign t2 env v
        let mut ok := true
        for c in [ct] do
          if ok then ok ← isTrue c env (eval c env)
        if ok then
          (do let _ ← call (.builtin "list.append") [acc, ← eval elt env])
        again (.compLoop (.ListComp elt [⟨t1, it1, [], 0⟩, ⟨t2, it2, [ct], 0⟩] scope pos) 1 it acc env)) := by rfl
theorem codeAny_compStart_two {elt t1 it1 t2 it2 ct : Expr} {scope : Scope} {pos : Pos} {it acc : Value} {env : Env}
    (h0 : codeAny (model prog w) A (.compLoop (.ListComp elt [⟨t1, it1, [], 0⟩, ⟨t2, it2, [ct], 0⟩] scope pos) 1 it acc env) R s)
    (h : wpAny (model prog w) A (pyIter it) (fun it' s' => codeAny (model prog w) A (.compLoop (.ListComp elt [⟨t1, it1, [], 0⟩, ⟨t2, it2, [ct], 0⟩] scope pos) 1 it' acc env) R s')
      (notedBy (model prog w) A env fun x s' => R (.error x) s') s) :
    codeAny (model prog w) A (.compStart (.ListComp elt [⟨t1, it1, [], 0⟩, ⟨t2, it2, [ct], 0⟩] scope pos) 1 it acc env) R s := by
  refine codeAny_of_tree ?_
  show wpAny _ _ ((compStart (.ListComp elt [⟨t1, it1, [], 0⟩, ⟨t2, it2, [ct], 0⟩] scope pos) 1 it acc env).onRaise (fun x => do noteFrame x env; standAt theWindowsPlace)) _ _ s
  refine wpAny_notedAt ?_
  unfold compStart
  show wpAny _ _ (ask >>= _) _ _ s
  refine wpAny_bind (wpAny_askSetting (wpAny_ite ?_))
  split
  · first
      | exact wpAny_bind (wpAny_pure (wpAny_pure (And.intro rfl h0)))
      | exact wpAny_pure (And.intro rfl h0)
  · first
      | exact wpAny_bind (wpAny_rule (wpAny_bind (wpAny_standAt (wpAny_bind (wpAny_mono h (fun it' s' h' => wpAny_pure (And.intro rfl h')) fun _ _ x => x)))))
      | (refine wpAny_bind (wpAny_rule ?_); show wpAny _ _ (standAt it2.pos >>= _) _ _ s; exact wpAny_bind (wpAny_standAt (wpAny_bind (wpAny_mono h (fun it' s' h' => wpAny_pure (And.intro rfl h')) fun _ _ x => x))))
theorem filt_succ (f : Nat → Bool) (i : Nat) : ((List.range (i + 1)).filter f).length = ((List.range i).filter f).length + (if f i = true then 1 else 0) := by
  rw [List.range_succ, List.filter_append, List.length_append]
  by_cases h : f i = true
  · simp [h]
  · simp [h]
theorem filt_le (f : Nat → Bool) (i : Nat) : ((List.range i).filter f).length ≤ i := by
  have := List.length_filter_le f (List.range i)
  rwa [List.length_range] at this
theorem inner_two {elt t1 it1 it2 ct : Expr} {x2 xj : Str} {px2 : Pos} {scope2 : Scope} {pos : Pos} {cenv : Env} {D I1 I2 : Addr} {o1 : Obj} {j : Nat} {vj : Value} {f : Nat → Bool} {ys0 : List Value} {NW : List (Addr × Obj)} {m' : Str → Option Value}
    (hh : A.handled = none) (hx2 : cenv.kindOf x2 = some .local) (hp : (cenv.scope.kind == .class || (cenv.scope.kind == .module && cenv.locals != cenv.globals)) = false) (hne : xj ≠ x2)
    (hCL : cenv.locals ≠ L) (hC₀ : h₀.get? cenv.locals = none) (hDL : D ≠ L) (hD₀ : h₀.get? D = none) (hIL : I2 ≠ L) (hI₀ : h₀.get? I2 = none)
    (hDC : D ≠ cenv.locals) (h1D : I1 ≠ D) (h1C : I1 ≠ cenv.locals) (h12 : I1 ≠ I2) (h2C : I2 ≠ cenv.locals) (h2D : I2 ≠ D) (off : ∀ p ∈ NW, p.1 ≠ I2 ∧ p.1 ≠ cenv.locals ∧ p.1 ≠ D)
    (F : Fr h₀ L s.heap m) (N : News h₀ L s.heap ((I1, o1) :: (D, lst ys0) :: NW)) (hn : s.heap.Ns cenv.locals m') (hj : m' xj = some vj) (hI2 : IsRangeIter s.heap I2 0 j 1) (hsz : ys0.length + j ≤ sizeLine)
    (turn : ∀ i t2 o2 oC ys m₂ h tk (E' : Value → Shared → Prop), i < j → NsObj oC m₂ → m₂ xj = some vj → m₂ x2 = some (.int (i : Int) t2) → Fr h₀ L h m → News h₀ L h ((I1, o1) :: (I2, o2) :: (cenv.locals, oC) :: (D, lst ys) :: NW) →
      wpAny (model prog w) A (isTrue ct cenv (eval ct cenv)) (fun ok s' => ok = f i ∧ ∃ h' tk', s' = { s with heap := h', toks := tk' } ∧ Fr h₀ L h' m ∧ News h₀ L h' ((I1, o1) :: (I2, o2) :: (cenv.locals, oC) :: (D, lst ys) :: NW)) E' { s with heap := h, toks := tk })
    (helt : ∀ (s₁ : Shared) (Q : Value → Shared → Prop) (E' : Value → Shared → Prop), (∀ v tk, Q v { s₁ with toks := tk }) → wpAny (model prog w) A (eval elt cenv) Q E' s₁)
    (hR : ∀ h' tk m₂ ys, Fr h₀ L h' m → h'.Ns cenv.locals m₂ → News h₀ L h' ((I1, o1) :: (D, lst ys) :: NW) → ys.length = ys0.length + ((List.range j).filter f).length → R (.ok .next) { s with heap := h', toks := tk }) :
    codeAny (model prog w) A (.compLoop (.ListComp elt [⟨t1, it1, [], 0⟩, ⟨.Name x2 px2, it2, [ct], 0⟩] scope2 pos) 1 (.ref I2) (.ref D) cenv) R s := by
  refine codeAny_loop rfl (fun k s' => ∃ h' tk i ys m₂, s' = { s with heap := h', toks := tk } ∧ i ≤ j ∧ k = j + 1 - i ∧ IsRangeIter h' I2 (0 + (i : Nat) * 1) ((j : Int) - (i : Nat)) 1 ∧ Fr h₀ L h' m ∧ h'.Ns cenv.locals m₂ ∧ m₂ xj = some vj ∧
    News h₀ L h' ((I1, o1) :: (D, lst ys) :: NW) ∧ ys.length = ys0.length + ((List.range i).filter f).length) ?_ (j + 1) ⟨s.heap, s.toks, 0, ys0, m', rfl, Nat.zero_le _, rfl, by simpa using hI2, F, hn, hj, N, by simp⟩
  rintro k s' ⟨h', tk, i, ys, m₂, rfl, hi, rfl, hst, F', hn', hj', N', hyl⟩
  show wpAny _ A ((compTurn (.ListComp elt [⟨t1, it1, [], 0⟩, ⟨.Name x2 px2, it2, [ct], 0⟩] scope2 pos) 1 (.ref I2) (.ref D) cenv).onRaise (fun x => do noteFrame x cenv; theTreesLotGoes x)) _ _ _
  refine wpAny_noted ?_
  rw [compTurn_two1]
  refine wpAny_bind (wpAny_standAt (wpAny_bind ?_))
  have W := range_walks (prog := prog) (w := w) (I := I2) hh 0 j
  by_cases hlt : i < j
  · refine W.item i _ _ _ hlt hst fun v h₂ tk₂ hPv hst₂ hk₂ => ?_
    obtain ⟨t2, rfl⟩ := hPv
    refine wpAny_bind (wpAny_of_eq (by rfl) ?_)
    refine wpAny_bind (wpAny_assign_Name (wpAny_storeName_local hx2 (hn'.at' fun o e => hk₂ _ o (by simpa using Ne.symm h2C) e) (fun h₃ hn₃ hs₃ => ?_) hp))
    have hst₃ : IsRangeIter h₃ I2 (0 + ((i + 1 : Nat) : Int) * 1) ((j : Int) - ((i + 1 : Nat) : Int)) 1 := W.frame _ _ _ hst₂ fun b hb o e => hs₃.extBut b o (fun q => h2C (by rw [← List.mem_singleton.mp hb]; exact q)) e
    obtain ⟨oC, heC, hoC⟩ := ns_obj hn₃
    have F₂ : Fr h₀ L h₂ m := fr_but F' hk₂ (Ne.symm hIL) hI₀
    have F₃ : Fr h₀ L h₃ m := F₂.change hs₃ hCL hC₀
    have N₂ : News h₀ L h₂ ((I1, o1) :: (D, lst ys) :: NW) := news_but N' hk₂ fun p hp => by
      rcases List.mem_cons.mp hp with rfl | hp
      · exact h12
      · rcases List.mem_cons.mp hp with rfl | hp
        · exact Ne.symm h2D
        · exact (off p hp).1
    have N₃ : News h₀ L h₃ ((I1, o1) :: (I2, _) :: (cenv.locals, oC) :: (D, lst ys) :: NW) := fun p hp => by
      rcases List.mem_cons.mp hp with rfl | hp
      · have z := N₂ (I1, o1) (.head _)
        exact ⟨hs₃.extBut _ _ h1C z.1, z.2⟩
      · rcases List.mem_cons.mp hp with rfl | hp
        · exact ⟨hst₃, hIL, hI₀⟩
        · rcases List.mem_cons.mp hp with rfl | hp
          · exact ⟨heC, hCL, hC₀⟩
          · have z := N₂ p (.tail _ hp)
            refine ⟨hs₃.extBut _ _ ?_ z.1, z.2⟩
            rcases List.mem_cons.mp hp with rfl | hp
            · exact hDC
            · exact (off p hp).2.1
    refine wpAny_bind (wpAny_tests_one (wpAny_mono (turn i t2 _ oC ys _ h₃ _ _ hlt hoC (by simp only [if_neg hne]; exact hj') (by simp) F₃ N₃) (fun ok s₄ h₄ => ?_) fun _ _ e => e))
    obtain ⟨rfl, h₄, tk₄, rfl, F₄, N₄⟩ := h₄
    have zI := (N₄ _ (.tail _ (.head _))).1
    have zC := (N₄ (cenv.locals, oC) (.tail _ (.tail _ (.head _)))).1
    have zD := (N₄ (D, lst ys) (.tail _ (.tail _ (.tail _ (.head _))))).1
    cases hf : f i with
    | false =>
      refine wpAny_pure ⟨rfl, j + 1 - (i + 1), by omega, h₄, tk₄, i + 1, ys, _, rfl, hlt, rfl, zI, F₄, hoC.ns zC, by simp only [if_neg hne]; exact hj', fun p hp => N₄ p ?_, by rw [filt_succ, hf]; simpa using hyl⟩
      rcases List.mem_cons.mp hp with rfl | hp
      · exact .head _
      · exact .tail _ (.tail _ (.tail _ hp))
    | true =>
      have hfl := filt_le f i
      refine wpAny_bind (wpAny_bind (helt _ _ _ fun y tk₅ => wpAny_bind (append_at (hsz := by show ys.toArray.size ≤ sizeLine; rw [List.size_toArray, hyl]; omega) zD fun h₅ hs₅ hD₅ => ?_)))
      refine wpAny_pure (wpAny_pure ⟨rfl, j + 1 - (i + 1), by omega, h₅, tk₅, i + 1, ys ++ [y], _, rfl, hlt, rfl, hs₅.extBut _ _ h2D zI, F₄.change hs₅ hDL hD₀, (hoC.ns zC).sameBut hs₅ (Ne.symm hDC), by simp only [if_neg hne]; exact hj', fun p hp => ?_, by rw [filt_succ, hf, List.length_append, hyl]; simp; omega⟩)
      rcases List.mem_cons.mp hp with rfl | hp
      · have z := N₄ (I1, o1) (.head _)
        exact ⟨hs₅.extBut _ _ h1D z.1, z.2⟩
      · rcases List.mem_cons.mp hp with rfl | hp
        · exact ⟨hD₅.trans (congrArg some (lst_snoc ys y)), hDL, hD₀⟩
        · have z := N₄ p (.tail _ (.tail _ (.tail _ (.tail _ hp))))
          exact ⟨hs₅.extBut _ _ (off p hp).2.2 z.1, z.2⟩
  · obtain rfl : i = j := Nat.le_antisymm hi (Nat.not_lt.mp hlt)
    refine W.done _ _ _ hst fun h₂ tk₂ hk₂ => wpAny_pure ?_
    exact hR h₂ tk₂ m₂ ys (fr_but F' hk₂ (Ne.symm hIL) hI₀) (hn'.at' fun o e => hk₂ _ o (by simpa using Ne.symm h2C) e) (news_but N' hk₂ fun p hp => by
      rcases List.mem_cons.mp hp with rfl | hp
      · exact h12
      · rcases List.mem_cons.mp hp with rfl | hp
        · exact Ne.symm h2D
        · exact (off p hp).1) hyl
/-- the pairs i < j < n at which f holds -/
noncomputable def pairs (f : Nat → Nat → Bool) : Nat → Nat
  | 0 => 0
  | j + 1 => pairs f j + ((List.range j).filter (f j)).length
theorem pairs_le (f : Nat → Nat → Bool) {b : Nat} : ∀ {n : Nat}, n ≤ b → pairs f n ≤ n * b
  | 0, _ => Nat.zero_le _
  | n + 1, h => by
    have h1 := pairs_le f (b := b) (n := n) (by omega)
    have h2 := filt_le (f n) n
    have h3 : (n + 1) * b = n * b + b := Nat.succ_mul n b
    show pairs f n + _ ≤ _
    omega
noncomputable abbrev ritO (x left : Int) : Obj := { cls := .type "range_iterator", dict := none, data := .fields #[rawInt x, rawInt left, rawInt 1], slots := #[] }
theorem block_two {elt it1 it2 ct : Expr} {x1 x2 : Str} {px1 px2 : Pos} {scope : Scope} {cl : List (Str × Addr)} {pos : Pos} {I : Addr} {n : Nat} {f : Nat → Nat → Bool} {NW : List (Addr × Obj)} {RR : Value → Addr → Result → Shared → Prop}
    (hh : A.handled = none) (hcell : ∀ y ∈ scope.names, y.2 ≠ .cell) (hkind : scope.kind = .function) (hx1 : scope.names.lookup x1 = some .local) (hx2 : scope.names.lookup x2 = some .local) (hne : x1 ≠ x2) (hsz : n * n + n ≤ sizeLine) (hn1 : n < 2000)
    (hst : IsRangeIter s.heap I 0 n 1) (F : Fr h₀ L s.heap m) (N : News h₀ L s.heap NW) (hIL : I ≠ L) (hI₀ : h₀.get? I = none) (off : ∀ p ∈ NW, p.1 ≠ I)
    (src : ∀ j t1 I1 o1 C oC D ys m₂ h tk (E' : Value → Shared → Prop), j < n → NsObj oC m₂ → m₂ x1 = some (.int (j : Int) t1) → Fr h₀ L h m → News h₀ L h ((I1, o1) :: (C, oC) :: (D, lst ys) :: NW) →
      wpAny (model prog w) A (eval it2 (compEnvC scope cl C env)) (fun xv s₁ => ∃ r t u v h' tk', xv = .ref r ∧ IsRange h' r 0 (j : Int) 1 t u v ∧ s₁ = { s with heap := h', toks := tk' } ∧ Fr h₀ L h' m ∧ News h₀ L h' ((I1, o1) :: (C, oC) :: (D, lst ys) :: NW)) E' { s with heap := h, toks := tk })
    (turn : ∀ j i t1 t2 I1 o1 I2 o2 C oC D ys m₂ h tk (E' : Value → Shared → Prop), j < n → i < j → NsObj oC m₂ → m₂ x1 = some (.int (j : Int) t1) → m₂ x2 = some (.int (i : Int) t2) → Fr h₀ L h m → News h₀ L h ((I1, o1) :: (I2, o2) :: (C, oC) :: (D, lst ys) :: NW) →
      wpAny (model prog w) A (isTrue ct (compEnvC scope cl C env) (eval ct (compEnvC scope cl C env))) (fun ok s' => ok = f j i ∧ ∃ h' tk', s' = { s with heap := h', toks := tk' } ∧ Fr h₀ L h' m ∧ News h₀ L h' ((I1, o1) :: (I2, o2) :: (C, oC) :: (D, lst ys) :: NW)) E' { s with heap := h, toks := tk })
    (helt : ∀ (C : Addr) (s₁ : Shared) (Q : Value → Shared → Prop) (E' : Value → Shared → Prop), (∀ v tk, Q v { s₁ with toks := tk }) → wpAny (model prog w) A (eval elt (compEnvC scope cl C env)) Q E' s₁)
    (hs2 : ∀ C x, foldedSetIterable it2 (compEnvC scope cl C env) x = pure x)
    (hRR : ∀ D C h tk m' ys, Fr h₀ L h m → News h₀ L h ((D, lst ys) :: NW) → h.Ns C m' → h₀.get? C = none → C ≠ L → C ≠ D → (∀ p ∈ NW, p.1 ≠ C ∧ p.1 ≠ D) → ys.length = pairs f n → RR (.ref D) C (.ok .next) { s with heap := h, toks := tk }) :
    wpAny (model prog w) A (newList []) (fun acc s₃ => wpAny (model prog w) A (newFunctionEnv scope env.globals cl [] env.qual none .none (some env)) (fun cenv s₄ =>
      codeAny (model prog w) A (.compStart (.ListComp elt [⟨.Name x1 px1, it1, [], 0⟩, ⟨.Name x2 px2, it2, [ct], 0⟩] scope pos) 0 (.ref I) acc { cenv with scope := relabel scope env }) (RR acc cenv.locals) s₄) E s₃) E s := by
  refine wpAny_newObj_type (wpAny_newFunctionEnv hcell (by intro y hy; simp at hy) (fun h₁ hns₁ hsb₁ => ?_) hkind)
  dsimp only at hns₁ hsb₁ ⊢
  generalize hH2 : s.heap.push { cls := .type "list", dict := none, data := .seq ([] : List Value).toArray } = H2 at hns₁ hsb₁ ⊢
  obtain ⟨D, hD⟩ : ∃ D, D = s.heap.objs.size := ⟨_, rfl⟩
  obtain ⟨C, hC⟩ : ∃ C, C = H2.objs.size := ⟨_, rfl⟩
  have hCD : C = D + 1 := by rw [hC, hD, ← hH2, Heap.size_push]
  rw [← hC] at hns₁ hsb₁ ⊢
  rw [← hD]
  have lt : ∀ b o, s.heap.get? b = some o → b < D := fun b o e => hD ▸ Heap.lt_size e
  have old : ∀ b o, s.heap.get? b = some o → h₁.get? b = some o := fun b o e => hsb₁.extBut b o (by rw [hCD]; exact Nat.ne_of_lt (Nat.lt_succ_of_lt (lt b o e))) (Heap.get?_push_of_some _ (hH2 ▸ Heap.get?_push_of_some _ e))
  have fresh : ∀ a, D ≤ a → h₀.get? a = none := fun a ha => by
    cases e : h₀.get? a with
    | none => rfl
    | some o' => exact absurd (lt a o' (F.keep a o' e)) (Nat.not_lt.mpr ha)
  have hLD : L < D := hD ▸ F.ns.lt
  have hID : I < D := lt I _ hst
  have hDL : D ≠ L := Nat.ne_of_gt hLD
  have hCL : C ≠ L := by rw [hCD]; exact Nat.ne_of_gt (Nat.lt_succ_of_lt hLD)
  have hDC : D ≠ C := by rw [hCD]; exact Nat.ne_of_lt (Nat.lt_succ_self _)
  have hIC : I ≠ C := by rw [hCD]; exact Nat.ne_of_lt (Nat.lt_succ_of_lt hID)
  have hIDn : I ≠ D := Nat.ne_of_lt hID
  have hD₀ := fresh D (Nat.le_refl _)
  have hC₀ := fresh C (by rw [hCD]; exact Nat.le_succ _)
  have offN : ∀ p ∈ NW, p.1 ≠ I ∧ p.1 ≠ C ∧ p.1 ≠ D ∧ p.1 < D := fun p hp => by
    have := lt _ _ (N p hp).1
    exact ⟨off p hp, by rw [hCD]; exact Nat.ne_of_lt (Nat.lt_succ_of_lt this), Nat.ne_of_lt this, this⟩
  have hacc : h₁.get? D = some (lst []) := hsb₁.extBut _ _ hDC (Heap.get?_push_of_some _ (by rw [← hH2, hD]; exact Heap.get?_push_size _ rfl))
  have loop : ∀ s₃ : Shared, s₃ = { s with heap := h₁, toks := s.toks + ([] : List (Str × Value)).length } →
      codeAny (model prog w) A (.compLoop (.ListComp elt [⟨.Name x1 px1, it1, [], 0⟩, ⟨.Name x2 px2, it2, [ct], 0⟩] scope pos) 0 (.ref I) (.ref D) (compEnvC scope cl C env)) (RR (.ref D) C) s₃ := by
    rintro s₃ rfl
    refine codeAny_loop rfl (fun k s' => ∃ h' tk j ys m₂, s' = { s with heap := h', toks := tk } ∧ j ≤ n ∧ k = n + 1 - j ∧ IsRangeIter h' I (0 + (j : Nat) * 1) ((n : Int) - (j : Nat)) 1 ∧ Fr h₀ L h' m ∧ h'.Ns C m₂ ∧
      News h₀ L h' ((D, lst ys) :: NW) ∧ ys.length = pairs f j) ?_ (n + 1) ⟨h₁, _, 0, [], _, rfl, Nat.zero_le _, rfl, by simpa using old _ _ hst, F.keeps old, hns₁, fun p hp => ?_, rfl⟩
    · rintro k s' ⟨h', tk, j, ys, m₂, rfl, hj, rfl, hst', F', hn', N', hyl⟩
      show wpAny _ A ((compTurn (.ListComp elt [⟨.Name x1 px1, it1, [], 0⟩, ⟨.Name x2 px2, it2, [ct], 0⟩] scope pos) 0 (.ref I) (.ref D) (compEnvC scope cl C env)).onRaise (fun x => do noteFrame x (compEnvC scope cl C env); theTreesLotGoes x)) _ _ _
      refine wpAny_noted ?_
      rw [compTurn_two0]
      refine wpAny_bind (wpAny_standAt (wpAny_bind ?_))
      have W := range_walks (prog := prog) (w := w) (I := I) hh 0 n
      by_cases hlt : j < n
      · refine W.item j _ _ _ hlt hst' fun v h₂ tk₂ hPv hst₂ hk₂ => ?_
        obtain ⟨t1, rfl⟩ := hPv
        rw [Int.zero_add]
        refine wpAny_bind (wpAny_of_eq (by rfl) ?_)
        refine wpAny_bind (wpAny_assign_Name (wpAny_storeName_local (lookup_relabel_local hx1) (hn'.at' fun o e => hk₂ _ o (by simpa using Ne.symm hIC) e) (fun h₃ hn₃ hs₃ => ?_) (by simp [compEnvC, relabel, hkind])))
        have hst₃ : IsRangeIter h₃ I (0 + ((j + 1 : Nat) : Int) * 1) ((n : Int) - ((j + 1 : Nat) : Int)) 1 := W.frame _ _ _ hst₂ fun b hb o e => hs₃.extBut b o (fun q => hIC (by rw [← List.mem_singleton.mp hb]; exact q)) e
        obtain ⟨oC, heC, hoC⟩ := ns_obj hn₃
        have F₃ : Fr h₀ L h₃ m := (fr_but F' hk₂ (Ne.symm hIL) hI₀).change hs₃ hCL hC₀
        have N₂ : News h₀ L h₂ ((D, lst ys) :: NW) := news_but N' hk₂ fun p hp => by
          rcases List.mem_cons.mp hp with rfl | hp
          · exact Ne.symm hIDn
          · exact off p hp
        have N₃ : News h₀ L h₃ ((I, _) :: (C, oC) :: (D, lst ys) :: NW) := fun p hp => by
          rcases List.mem_cons.mp hp with rfl | hp
          · exact ⟨hst₃, hIL, hI₀⟩
          · rcases List.mem_cons.mp hp with rfl | hp
            · exact ⟨heC, hCL, hC₀⟩
            · have z := N₂ p hp
              refine ⟨hs₃.extBut _ _ ?_ z.1, z.2⟩
              rcases List.mem_cons.mp hp with rfl | hp
              · exact hDC
              · exact (offN p hp).2.1
        refine wpAny_bind (wpAny_mono (src j t1 I _ C oC D ys _ h₃ _ _ hlt hoC (by simp) F₃ N₃) (fun xv s₄ h₄ => ?_) fun _ _ e => e)
        obtain ⟨r, t, u, v, h₄, tk₄, rfl, hr, rfl, F₄, N₄⟩ := h₄
        refine wpAny_bind (wpAny_standAt (wpAny_bind (wpAny_of_eq (hs2 C _) (wpAny_bind (wpAny_holding (wpAny_pyIter_range hr (small_one (by omega) (by omega) (by omega) (by omega)) ?_))))))
        refine wpAny_bind (wpAny_runOwn ?_)
        rw [Around.mark_none]
        have ns4 : h₄.Ns C _ := hoC.ns (N₄ (C, oC) (.tail _ (.head _))).1
        have up : ∀ b o, h₄.get? b = some o → (h₄.push { cls := .type "range_iterator", data := .fields #[rawInt 0, rawInt (Range.rangeSize 0 (j : Int) 1), rawInt 1] }).get? b = some o := fun b o e => Heap.get?_push_of_some _ e
        have ltI : ∀ b o, h₄.get? b = some o → b ≠ h₄.objs.size := fun b o e => Nat.ne_of_lt (Heap.lt_size e)
        have hlp := pairs_le f (b := n) (Nat.le_of_lt hlt)
        have hjn : j * n ≤ n * n := Nat.mul_le_mul_right n hj
        have hRI : IsRangeIter (h₄.push { cls := .type "range_iterator", data := .fields #[rawInt 0, rawInt (Range.rangeSize 0 (j : Int) 1), rawInt 1] }) h₄.objs.size 0 (j : Int) 1 := by
          show Heap.get? _ _ = _
          rw [rangeSize_nat]
          exact Heap.get?_push_size _ rfl
        have inner : ∀ (RI : Result → Shared → Prop) (s₅ : Shared), s₅ = ({ s with heap := h₄.push { cls := .type "range_iterator", data := .fields #[rawInt 0, rawInt (Range.rangeSize 0 (j : Int) 1), rawInt 1] }, toks := tk₄ } : Shared) →
            (∀ h₆ tk₆ m₆ ys₆, Fr h₀ L h₆ m → h₆.Ns C m₆ → News h₀ L h₆ ((I, ritO (0 + ((j + 1 : Nat) : Int) * 1) ((n : Int) - ((j + 1 : Nat) : Int))) :: (D, lst ys₆) :: NW) → ys₆.length = ys.length + ((List.range j).filter (f j)).length → RI (.ok .next) { s with heap := h₆, toks := tk₆ }) →
            codeAny (model prog w) A (.compLoop (.ListComp elt [⟨.Name x1 px1, it1, [], 0⟩, ⟨.Name x2 px2, it2, [ct], 0⟩] scope pos) 1 (.ref h₄.objs.size) (.ref D) (compEnvC scope cl C env)) RI s₅ := by
          rintro RI s₅ rfl fin
          refine inner_two (cenv := compEnvC scope cl C env) (I1 := I) (ys0 := ys) (NW := NW) (xj := x1) (f := f j) hh (lookup_relabel_local hx2) (by simp [compEnvC, relabel, hkind]) hne hCL hC₀ hDL hD₀ (Ne.symm (ltI _ _ F₄.ns.choose_spec.choose_spec.choose_spec.1)) (next_is_new F₄) hDC hIDn hIC (ltI _ _ (N₄ _ (.head _)).1) (Ne.symm (ltI _ _ (N₄ (C, oC) (.tail _ (.head _))).1)) (Ne.symm (ltI _ _ (N₄ (D, lst ys) (.tail _ (.tail _ (.head _)))).1))
            (fun p hp => ⟨ltI _ _ (N₄ p (.tail _ (.tail _ (.tail _ hp)))).1, (offN p hp).2.1, (offN p hp).2.2.1⟩) (F₄.keeps up) (fun p hp => ?_) (ns4.at' fun o e => up _ o e) (by simp; rfl) hRI (by rw [hyl]; omega) ?_ (fun s₁ Q E' k => helt C s₁ Q E' k) fin
          · have N5 := N₄.grown up
            rcases List.mem_cons.mp hp with rfl | hp
            · exact N5 _ (.head _)
            · exact N5 _ (.tail _ (.tail _ hp))
          · intro i t2 o2 oC' ys' m₅ h₅ tk₅ E' hi hoC' hm1 hm2 F₅ N₅
            exact turn j i t1 t2 I _ _ o2 C oC' D ys' m₅ h₅ tk₅ E' hlt hi hoC' hm1 hm2 F₅ N₅
        refine codeAny_compStart_two (inner _ _ rfl ?_) (wpAny_pyIter_rangeiter hRI (inner _ _ rfl ?_))
        all_goals
          intro h₆ tk₆ m₆ ys₆ F₆ hn₆ N₆ hy₆
          exact wpAny_pure ⟨rfl, n + 1 - (j + 1), by omega, h₆, tk₆, j + 1, ys₆, m₆, rfl, hlt, rfl, (N₆ _ (.head _)).1, F₆, hn₆, fun p hp => N₆ p (.tail _ hp), by rw [hy₆, hyl]; rfl⟩
      · obtain rfl : j = n := Nat.le_antisymm hj (Nat.not_lt.mp hlt)
        refine W.done _ _ _ hst' fun h₂ tk₂ hk₂ => wpAny_pure ?_
        exact hRR _ _ h₂ tk₂ m₂ ys (fr_but F' hk₂ (Ne.symm hIL) hI₀) (news_but N' hk₂ fun p hp => by
          rcases List.mem_cons.mp hp with rfl | hp
          · exact Ne.symm hIDn
          · exact off p hp) (hn'.at' fun o e => hk₂ _ o (by simpa using Ne.symm hIC) e) hC₀ hCL (Ne.symm hDC) (fun p hp => ⟨(offN p hp).2.1, (offN p hp).2.2.1⟩) hyl
    · rcases List.mem_cons.mp hp with rfl | hp
      · exact ⟨hacc, hDL, hD₀⟩
      · exact ⟨old _ _ (N p hp).1, (N p hp).2⟩
  exact codeAny_compStart_list (loop _ rfl) ((range_walks (prog := prog) (w := w) (I := I) hh 0 n).self 0 _ _ _ (by simpa using old _ _ hst) (loop _ rfl))
/-- a range of n at hand, the ledger kept -/
noncomputable def RangeEnd (h₀ : Heap) (L : Addr) (m : Str → Option Value) (s : Shared) (NW : List (Addr × Obj)) (n : Nat) (xv : Value) (s₁ : Shared) : Prop :=
  ∃ r t u v h₁ tk, xv = .ref r ∧ IsRange h₁ r 0 (n : Int) 1 t u v ∧ s₁ = { s with heap := h₁, toks := tk } ∧ Fr h₀ L h₁ m ∧ News h₀ L h₁ NW
theorem RangeEnd.intro {NW all : List (Addr × Obj)} {n : Nat} {r : Addr} {t u v : Tok} {h₁ : Heap} {tk : Nat} (hr : IsRange h₁ r 0 (n : Int) 1 t u v) (F : Fr h₀ L h₁ m) (N : News h₀ L h₁ all) (sub : ∀ p ∈ NW, p ∈ all) :
    RangeEnd h₀ L m s NW n (.ref r) { s with heap := h₁, toks := tk } := ⟨r, t, u, v, h₁, tk, rfl, hr, rfl, F, fun p hp => N p (sub p hp)⟩
/-- the test's answer, the ledger kept -/
noncomputable def TestEnd (h₀ : Heap) (L : Addr) (m : Str → Option Value) (s : Shared) (NW : List (Addr × Obj)) (b : Bool) (ok : Bool) (s₁ : Shared) : Prop :=
  ok = b ∧ ∃ h' tk', s₁ = { s with heap := h', toks := tk' } ∧ Fr h₀ L h' m ∧ News h₀ L h' NW
theorem TestEnd.intro {NW : List (Addr × Obj)} {b : Bool} {h₁ : Heap} {tk : Nat} (F : Fr h₀ L h₁ m) (N : News h₀ L h₁ NW) :
    TestEnd h₀ L m s NW b b { s with heap := h₁, toks := tk } := ⟨rfl, h₁, tk, rfl, F, N⟩
theorem ListComp2 {elt iter it2 ct : Expr} {x1 x2 : Str} {px1 px2 : Pos} {scope : Scope} {cl : List (Str × Addr)} {pos : Pos} {Q : Value → Shared → Prop} {n : Nat} {f : Nat → Nat → Bool} {NW : List (Addr × Obj)}
    (F₀ : Fr h₀ L s.heap m) (hh : A.handled = none) (hclos : closureFor scope env = pure cl) (hcell : ∀ y ∈ scope.names, y.2 ≠ .cell) (hkind : scope.kind = .function)
    (hnames : ∀ y ∈ scope.names, y.2 = .local → scope.names.lookup y.1 = some .local) (hx1 : scope.names.lookup x1 = some .local) (hx2 : scope.names.lookup x2 = some .local) (hne : x1 ≠ x2) (hsz : n * n + n ≤ sizeLine) (hn1 : n < 2000)
    (h : wpAny (model prog w) A (eval iter env) (RangeEnd h₀ L m s NW n) E s)
    (src : ∀ j t1 I1 o1 C oC D ys m₂ h tk (E' : Value → Shared → Prop), j < n → NsObj oC m₂ → m₂ x1 = some (.int (j : Int) t1) → Fr h₀ L h m → News h₀ L h ((I1, o1) :: (C, oC) :: (D, lst ys) :: NW) →
      wpAny (model prog w) A (eval it2 (compEnvC scope cl C env)) (RangeEnd h₀ L m s ((I1, o1) :: (C, oC) :: (D, lst ys) :: NW) j) E' { s with heap := h, toks := tk })
    (turn : ∀ j i t1 t2 I1 o1 I2 o2 C oC D ys m₂ h tk (E' : Value → Shared → Prop), j < n → i < j → NsObj oC m₂ → m₂ x1 = some (.int (j : Int) t1) → m₂ x2 = some (.int (i : Int) t2) → Fr h₀ L h m → News h₀ L h ((I1, o1) :: (I2, o2) :: (C, oC) :: (D, lst ys) :: NW) →
      wpAny (model prog w) A (isTrue ct (compEnvC scope cl C env) (eval ct (compEnvC scope cl C env))) (TestEnd h₀ L m s ((I1, o1) :: (I2, o2) :: (C, oC) :: (D, lst ys) :: NW) (f j i)) E' { s with heap := h, toks := tk })
    (helt : ∀ (C : Addr) (s₁ : Shared) (Q : Value → Shared → Prop) (E' : Value → Shared → Prop), (∀ v tk, Q v { s₁ with toks := tk }) → wpAny (model prog w) A (eval elt (compEnvC scope cl C env)) Q E' s₁)
    (hQ : ∀ D ys h tk, Fr h₀ L h m → News h₀ L h ((D, lst ys) :: NW) → (∀ p ∈ NW, p.1 ≠ D) → ys.length = pairs f n → Q (.ref D) { s with heap := h, toks := tk })
    (hs : ∀ x, foldedSetIterable iter env x = pure x := by intro _; rfl) (hs2 : ∀ C x, foldedSetIterable it2 (compEnvC scope cl C env) x = pure x := by intro _ _; rfl) :
    wpAny (model prog w) A (eval (.ListComp elt [⟨.Name x1 px1, iter, [], 0⟩, ⟨.Name x2 px2, it2, [ct], 0⟩] scope pos) env) Q E s := by
  rw [eval_ListComp]
  refine wpAny_comprehension_free (use := none) rfl hs hclos hkind hnames (wpAny_mono h (fun xv s₁ h₁ => ?_) fun _ _ e => e)
  obtain ⟨r, t, u, v, h₁, tk, rfl, hr, rfl, F, N⟩ := h₁
  refine wpAny_pyIter_range hr (small_one (by omega) (by omega) (by omega) (by omega)) ?_
  have up : ∀ b o, h₁.get? b = some o → (h₁.push { cls := .type "range_iterator", data := .fields #[rawInt 0, rawInt (Range.rangeSize 0 (n : Int) 1), rawInt 1] }).get? b = some o := fun b o e => Heap.get?_push_of_some _ e
  refine block_two (I := h₁.objs.size) (f := f) hh hcell hkind hx1 hx2 hne hsz hn1 ?_ (F.keeps up) (N.grown up) (Nat.ne_of_gt F.ns.lt) (next_is_new F) (fun p hp => Nat.ne_of_lt (Heap.lt_size (N p hp).1))
    (fun j t1 I1 o1 C oC D ys m₂ h tk E' a1 a2 a3 a4 a5 => src j t1 I1 o1 C oC D ys m₂ h tk E' a1 a2 a3 a4 a5) (fun j i t1 t2 I1 o1 I2 o2 C oC D ys m₂ h tk E' a1 a2 a3 a4 a5 a6 a7 => turn j i t1 t2 I1 o1 I2 o2 C oC D ys m₂ h tk E' a1 a2 a3 a4 a5 a6 a7) helt hs2 ?_
  · show Heap.get? _ _ = _
    rw [rangeSize_nat]
    exact Heap.get?_push_size _ rfl
  · intro D C h tk' m' ys F' N' hn hC₀ hCL hCD offN hyl
    refine ⟨m', hn, fun h'' hs'' => hQ D ys h'' tk' (F'.change hs'' hCL hC₀) (fun p hp => ?_) (fun p hp => (offN p hp).2) hyl⟩
    refine ⟨hs''.extBut _ _ ?_ (N' p hp).1, (N' p hp).2⟩
    rcases List.mem_cons.mp hp with rfl | hp
    · exact Ne.symm hCD
    · exact (offN p hp).1
end
theorem cl_all : (sizes.all fun n => decide ((wsOf (stairT n).flatten).count.length < 10000) && (List.range n).all fun st => decide ((wsOf (turnT n st).flatten).count.length < 10000)) = true := by decide +kernel
theorem cl_ok {n st : Nat} (h : 3 ≤ n ∧ n ≤ 15 ∧ n % 2 = 1) (hs : st < n) : (wsOf (turnT n st).flatten).count.length < 10000 ∧ (wsOf (stairT n).flatten).count.length < 10000 := by
  have := List.all_eq_true.mp cl_all n (size_mem h)
  simp only [Bool.and_eq_true] at this
  exact ⟨of_decide_eq_true (List.all_eq_true.mp this.2 st (List.mem_range.mpr hs)), of_decide_eq_true this.1⟩
theorem tab_head {P : Addr} {line col : Nat} {q : Str} {tb : List (Addr × Obj)} (h : TabSt P line col q tb) : ∃ ps, (P, tabObj ps) ∈ tb := by
  rcases h with rfl | ⟨c, oc, vs, t, rfl, _⟩
  · exact ⟨_, .head _⟩
  · exact ⟨_, .head _⟩
theorem ends_of {h₀ h' : Heap} {L : Addr} {T3 T4 nw : List (Addr × Obj)} {tab : Array Value} (S3 : TabSt 37 35 4 "_int2digits.<locals>.inner" T3) (S4 : TabSt 44 50 4 "_digits2int.<locals>.inner" T4) (N : News h₀ L h' nw) (h1 : (173, tabObj tab) ∈ nw) (h2 : ∀ p ∈ T3 ++ T4, p ∈ nw) :
    ∃ p2 p3, News h₀ L h' [(173, tabObj tab), (44, tabObj p2), (37, tabObj p3)] := by
  obtain ⟨p3, m3⟩ := tab_head S3
  obtain ⟨p2, m2⟩ := tab_head S4
  refine ⟨p2, p3, fun q hq => N q ?_⟩
  rcases List.mem_cons.mp hq with rfl | hq
  · exact h1
  · rcases List.mem_cons.mp hq with rfl | hq
    · exact h2 _ (List.mem_append_right _ m2)
    · rcases List.mem_cons.mp hq with rfl | hq
      · exact h2 _ (List.mem_append_left _ m3)
      · exact absurd hq List.not_mem_nil
section
variable {α : Type} {aa b1 b2 tt : List α}
theorem sel_two : ∀ p ∈ b1 ++ b2, p ∈ aa ++ (b1 ++ (b2 ++ tt)) := fun p hp => by
  simp only [List.mem_append] at hp ⊢
  rcases hp with h | h
  · exact .inr (.inl h)
  · exact .inr (.inr (.inl h))
theorem oth_two : ∀ p ∈ aa ++ tt, p ∈ aa ++ (b1 ++ (b2 ++ tt)) := fun p hp => by
  simp only [List.mem_append] at hp ⊢
  rcases hp with h | h
  · exact .inl h
  · exact .inr (.inr (.inr h))
end
theorem off_two {aa b1 b2 tt : List (Addr × Obj)} (h1 : ∀ r ∈ b1, ∀ q ∈ aa ++ tt, r.1 ≠ q.1) (h2 : ∀ r ∈ b2, ∀ q ∈ aa ++ (b1 ++ tt), r.1 ≠ q.1) : ∀ p ∈ aa ++ tt, ∀ q ∈ b1 ++ b2, p.1 ≠ q.1 := fun p hp q hq e => by
  rcases List.mem_append.mp hq with hq | hq
  · exact h1 q hq p hp e.symm
  · refine h2 q hq p ?_ e.symm
    rcases List.mem_append.mp hp with h | h
    · exact List.mem_append_left _ h
    · exact List.mem_append_right _ (List.mem_append_right _ h)
theorem News.untwo {h₀ h : Heap} {L : Addr} {aa b1 b2 tt : List (Addr × Obj)} (N : News h₀ L h ((b1 ++ b2) ++ (aa ++ tt))) : News h₀ L h (aa ++ (b1 ++ (b2 ++ tt))) := fun q hq => N q (by
  simp only [List.mem_append] at hq ⊢
  rcases hq with h | h | h | h
  · exact .inr (.inl h)
  · exact .inl (.inl h)
  · exact .inl (.inr h)
  · exact .inr (.inr h))

section
variable {w : World} {dp un : Nat} {gd : Option (List Code)} {env : Env} {outer : List Env} {A₀ : Around} {base h₀ : Heap} {L : Addr} {m : Str → Option Value} {tp : Program} {tl : List Str} {mean : ExcName → Option Value} {mg mb : Str → Option Value} {s : Shared} {Q E : Value → Shared → Prop}
/-- a call that leaves what it looks at -/
theorem use_keep {D U : Nat} {f : Addr} {args : List Value} {sel news : List (Addr × Obj)} {Post : Nat → Value → List (Addr × Obj) → Prop} (C : Con w D U f args sel Post) (hk : ∀ n v b, Post n v b → b = sel)
    (B : Below A₀ base outer h₀) (F : Fr h₀ L s.heap m) (X : (hd.heap_1 w.params).In h₀) (N : News h₀ L s.heap news) (T : Top tp tl mean mg mb h₀) (hf : env.frame = some L) (hke : env.scope.kind = .function)
    (hsel : ∀ p ∈ sel, p ∈ news) (hd : dp + D < recursionLimit) (hu : un + U < cLine)
    (ret : ∀ v h' tk', Fr h₀ L h' m → News h₀ L h' news → Post s.heap.objs.size v sel → Q v { s with heap := h', toks := tk' }) :
    wpAny (model Challenge.rw_pe0259_01.row.prog w) (Ar dp un gd (env :: outer)) (call (.ref f) args) Q E s := by
  refine use_g C (oth := news.filter fun p => decide (p.1 ∉ sel.map Prod.fst)) B F X N T hf hke hsel (fun p hp => (List.mem_filter.mp hp).1) (fun p hp q hq e => ?_) hd hu ?_
  · exact of_decide_eq_true (List.mem_filter.mp hp).2 (e ▸ List.mem_map_of_mem hq)
  · intro v sel' h' tk' F' N' _ _ hP
    obtain rfl := hk _ _ _ hP
    refine ret v h' tk' F' (fun p hp => ?_) hP
    by_cases hm : p.1 ∈ sel'.map Prod.fst
    · obtain ⟨r, hr, e⟩ := List.mem_map.mp hm
      have e1 := (N p hp).1
      have e2 := (N r (hsel r hr)).1
      rw [e, e1] at e2
      have : p = r := Prod.ext e.symm (Option.some.inj e2)
      exact N' p (List.mem_append_left _ (this ▸ hr))
    · exact N' p (List.mem_append_right _ (List.mem_filter.mpr ⟨hp, decide_eq_true hm⟩))
end
/-- Whitespaces of so many blanks -/
noncomputable def LeadsAt (w : World) (vs : List Value) (q : Nat → Nat) (n : Nat) (bl : List (Addr × Obj)) : Prop :=
  vs.length = n ∧ ∀ i, i < n → ∃ x b, vs[i]? = some (.ref x) ∧ WsAt w x (wsOf (List.replicate (q i) 32)) b ∧ ∀ r ∈ b, r ∈ bl
theorem LeadsAt.nil {w : World} {q : Nat → Nat} : LeadsAt w [] q 0 [] := ⟨rfl, fun i h => absurd h (Nat.not_lt_zero i)⟩
theorem LeadsAt.snoc {w : World} {vs : List Value} {q : Nat → Nat} {n : Nat} {bl b : List (Addr × Obj)} {x : Addr} (H : LeadsAt w vs q n bl) (W : WsAt w x (wsOf (List.replicate (q n) 32)) b) : LeadsAt w (vs ++ [.ref x]) q (n + 1) (b ++ bl) := by
  refine ⟨by rw [List.length_append, H.1]; rfl, fun i hi => ?_⟩
  by_cases h : i < n
  · obtain ⟨y, c, h1, h2, h3⟩ := H.2 i h
    exact ⟨y, c, by rw [List.getElem?_append_left (by rw [H.1]; exact h)]; exact h1, h2, fun r hr => List.mem_append_right _ (h3 r hr)⟩
  · obtain rfl : i = n := by omega
    exact ⟨x, b, by rw [List.getElem?_append_right (by rw [H.1]; exact Nat.le_refl _), H.1, Nat.sub_self]; rfl, W, fun r hr => List.mem_append_left _ hr⟩
theorem wsOf_blank (q : Nat) : wsOf (List.replicate q 32) = ⟨[], q, q, 0⟩ := by
  have : ∀ (q : Nat) (c : List Int) (b n nt : Nat), (List.replicate q 32).foldl wsStep ⟨c, b, n, nt⟩ = ⟨c, b + q, n + q, nt⟩ := by
    intro q
    induction q with
    | zero => intro c b n nt; rfl
    | succ q ih =>
      intro c b n nt
      rw [List.replicate_succ, List.foldl_cons]
      show (List.replicate q 32).foldl wsStep ⟨c, b + 1, n + 1, nt⟩ = _
      rw [ih, Nat.add_assoc, Nat.add_comm 1 q, Nat.add_assoc, Nat.add_comm 1 q]
  have h := this q [] 0 0 0
  rw [Nat.zero_add] at h
  exact h
noncomputable def leadT (n st : Nat) : List (List Nat) := (List.range (n / 2)).map fun j => List.replicate ((j + 1) * st % n) 32 ++ [9]
theorem leadT_len {n st : Nat} (hn : 0 < n ∧ n ≤ 15) : (leadT n st).flatten.length ≤ 200 := by
  have := flat_le (b := 16) (leadT n st) (fun x hx => by
    obtain ⟨j, _, rfl⟩ := List.mem_map.mp hx
    have := Nat.mod_lt ((j + 1) * st) (by omega : 0 < n)
    simp; omega)
  have h2 : (leadT n st).length = n / 2 := by unfold leadT; simp
  rw [h2] at this
  omega
theorem lead_ws (n st : Nat) : ∀ c ∈ (leadT n st).flatten, c = 32 ∨ c = 9 := ws_of_parts fun x hx => by
  obtain ⟨j, _, rfl⟩ := List.mem_map.mp hx
  exact ⟨_, rfl⟩
noncomputable abbrev leadS (n st : Nat) : WsSt := wsOf (leadT n st).flatten
/-- the level of the lead -/
noncomputable def levOf (n st : Nat) : Int := (leadS n st).b + (((n / 2 : Nat) : Int) + 1) * (ilTo (leadS n st).count (((n / 2 : Nat) : Int) + 1) ((leadS n st).count.length - (((n / 2 : Nat) : Int) + 1).toNat) + (leadS n st).nt)
noncomputable abbrev crossF (n st j i : Nat) : Bool := decide (j * st % n < i * st % n)
noncomputable def lawOk (n st : Nat) : Bool :=
  decide ((leadS n st).count.length < 10000) && decide ((levOf n st).natAbs < 2 ^ 59) && (chrOf n st == 0 || (levOf n st % (((n / 2 : Nat) : Int) + 1) == 0 && 1 - ((pairs (crossF n st) n : Nat) : Int) % 2 * 2 == chrOf n st && 1 - (levOf n st / (((n / 2 : Nat) : Int) + 1) - (leadS n st).nt) % 2 * 2 == chrOf n st))
theorem lawOk_all : (sizes.all fun n => (List.range n).all fun st => lawOk n st) = true := by decide +kernel
theorem law_ok {n st : Nat} (h : 3 ≤ n ∧ n ≤ 15 ∧ n % 2 = 1) (hs : st < n) : lawOk n st = true :=
  List.all_eq_true.mp (List.all_eq_true.mp lawOk_all n (size_mem h)) st (List.mem_range.mpr hs)
theorem pick_row {l : List Value} {n h : Nat} (hl : l.length = n) (h2 : h < n) : kms_pick (List.toArray l).toList (some 1) (some ((h : Int) + 1)) = (l.drop 1).take h := by
  unfold kms_pick kms_lo kms_hi
  simp only []
  rw [if_neg (show ¬ ((1 : Int) < 0) by decide), if_neg (show ¬ ((h : Int) + 1 < 0) by omega)]
  have e1 : (1 : Int).toNat = 1 := rfl
  have e2 : ((h : Int) + 1).toNat = h + 1 := by omega
  rw [e1, e2, hl, Nat.min_eq_left (by omega), Nat.min_eq_left (by omega)]
  rfl
theorem strs_drop {vs : List Value} {xs : List Str} (h : StrsAre vs xs) (k : Nat) : StrsAre (vs.drop k) (xs.drop k) := by
  induction h generalizing k with
  | nil => simp; exact .nil
  | cons a t h ih =>
    cases k with
    | zero => exact .cons a t h
    | succ k => exact ih k
theorem strs_take {vs : List Value} {xs : List Str} (h : StrsAre vs xs) (k : Nat) : StrsAre (vs.take k) (xs.take k) := by
  induction h generalizing k with
  | nil => simp; exact .nil
  | cons a t h ih =>
    cases k with
    | zero => exact .nil
    | succ k => exact .cons a t (ih k)
theorem row_part {n h : Nat} (g : Nat → Str) (hh : h < n) : (((List.range n).map g).drop 1).take h = (List.range h).map fun j => g (j + 1) := by
  apply List.ext_getElem
  · simp; omega
  · intro i h1 h2
    simp [Nat.add_comm]

section
variable {w : World} {dp un : Nat} {gd : Option (List Code)} {outer : List Env} {A₀ : Around} {base h₀ : Heap} {L fa : Addr} {cd : Value} {tp : Program} {tl : List Str} {mean : ExcName → Option Value} {mg mb : Str → Option Value} {s : Shared} {Q : Flow → Shared → Prop} {E : Value → Shared → Prop} {rest : List Stmt} {scope : Scope}
theorem e1_ok {n st : Nat} {lev : Int} (hc5 : 1 - (lev - ((leadS n st).nt : Int)) % 2 * 2 = chrOf n st) : (1 - (lev - ((leadS n st).nt : Int)).fmod 2 * 2 == chrOf n st) = true := by
  rw [Int.fmod_eq_emod_of_nonneg _ (by decide), hc5]; exact beq_self_eq_true _
theorem e2_ok {n st : Nat} (hc4 : 1 - ((pairs (crossF n st) n : Nat) : Int) % 2 * 2 = chrOf n st) : (1 - ((pairs (crossF n st) n : Nat) : Int).fmod 2 * 2 == chrOf n st) = true := by
  rw [Int.fmod_eq_emod_of_nonneg _ (by decide), hc4]; exact beq_self_eq_true _
theorem stG (hdef : lawRest ((hd.heap_1 w.params).lookup 216) 18 = some (rest, scope)) (B : Below A₀ base outer h₀) (X : (hd.heap_1 w.params).In h₀) (T : Top tp tl mean mg mb h₀)
    {sc Dt : Addr} {kt n st : Nat} {t0 t1 t2 : Int} {u0 u1 u2 un' th tp' : Tok} {text words once : Option Value} (hn : 3 ≤ n ∧ n ≤ 15 ∧ n % 2 = 1) (hsn : st < n) (hpr : (t1 * t2) % (n : Int) = (st : Int)) (hb1 : -2000 ≤ t1 ∧ t1 ≤ 2000) (hb2 : -2000 ≤ t2 ∧ t2 ≤ 2000)
    {T3 T4 : List (Addr × Obj)} {tab : Array Value} (S3 : TabSt 37 35 4 "_int2digits.<locals>.inner" T3) (S4 : TabSt 44 50 4 "_digits2int.<locals>.inner" T4)
    {o1 o2 o3 o4 o5 : Obj} {v5 : Option Value} (k2 : cellIs o2 (some (.int (n : Int) un'))) (k4 : cellIs o4 (some (.int (t1 * t2) tp'))) (k5 : cellIs o5 v5)
    {D2 : Addr} {i2 : List Value} {kk2 : Nat} (hst2 : StrsAre i2 ((List.range n).map fun k => blank (k * st % n)))
    (dDt : ∀ q ∈ [(L + 1 + 1 + 1 + 1 + 1, o5), (L + 1 + 1 + 1 + 1, o4), (L + 1 + 1 + 1, o3), (L + 1 + 1, o2), (L + 1, o1)], Dt ≠ q.1)
    (hL : 173 < L) (hd' : dp + 200 < recursionLimit) (hu : un + 2000 < cLine) (hQ : LawEnd h₀ L Q s)
    {tc : Tok} {xT : Addr} {bT : List (Addr × Obj)} (WT : WsAt w xT (wsOf (turnT n st).flatten) bT) (offW : ∀ r ∈ bT, ∀ q ∈ (D2, listOf i2.toArray kk2) :: [(173, tabObj tab), (Dt, listOf #[Value.int t0 u0, Value.int t1 u1, Value.int t2 u2] kt), (L + 1 + 1 + 1 + 1 + 1, o5), (L + 1 + 1 + 1 + 1, o4), (L + 1 + 1 + 1, o3), (L + 1 + 1, o2), (L + 1, o1)] ++ (T3 ++ T4), r.1 ≠ q.1)
    (offT : ∀ q ∈ (D2, listOf i2.toArray kk2) :: [(173, tabObj tab), (Dt, listOf #[Value.int t0 u0, Value.int t1 u1, Value.int t2 u2] kt), (L + 1 + 1 + 1 + 1 + 1, o5), (L + 1 + 1 + 1 + 1, o4), (L + 1 + 1 + 1, o3), (L + 1 + 1, o2), (L + 1, o1)], ∀ r ∈ T3 ++ T4, q.1 ≠ r.1) (dD2 : ∀ q ∈ [(173, tabObj tab), (Dt, listOf #[Value.int t0 u0, Value.int t1 u1, Value.int t2 u2] kt), (L + 1 + 1 + 1 + 1 + 1, o5), (L + 1 + 1 + 1 + 1, o4), (L + 1 + 1 + 1, o3), (L + 1 + 1, o2), (L + 1, o1)], q.1 ≠ D2)
    {xS : Addr} {bS : List (Addr × Obj)} (WS : WsAt w xS (wsOf (stairT n).flatten) bS) (offS : ∀ r ∈ bS, ∀ q ∈ (D2, listOf i2.toArray kk2) :: [(173, tabObj tab), (Dt, listOf #[Value.int t0 u0, Value.int t1 u1, Value.int t2 u2] kt), (L + 1 + 1 + 1 + 1 + 1, o5), (L + 1 + 1 + 1 + 1, o4), (L + 1 + 1 + 1, o3), (L + 1 + 1, o2), (L + 1, o1)] ++ (bT ++ (T3 ++ T4)), r.1 ≠ q.1)
    {tx : Tok} {xL : Addr} {bL : List (Addr × Obj)} (WL : WsAt w xL (leadS n st) bL) (offL : ∀ r ∈ bL, ∀ q ∈ T3 ++ T4, r.1 ≠ q.1) (hchr : chrOf n st ≠ 0)
    (F : Fr h₀ L s.heap (wl (some (.ref sc)) (some (.int ((n / 2 : Nat) : Int) th)) text words once (some (.ref D2)) (some (.int (chrOf n st) tc)) (some (.ref xT)) (some (.ref xS)) (some (.int ((pairs (crossF n st) n : Nat) : Int) tx)) (some (.ref xL)) none))
    (N : News h₀ L s.heap ((D2, listOf i2.toArray kk2) :: [(173, tabObj tab), (Dt, listOf #[Value.int t0 u0, Value.int t1 u1, Value.int t2 u2] kt), (L + 1 + 1 + 1 + 1 + 1, o5), (L + 1 + 1 + 1 + 1, o4), (L + 1 + 1 + 1, o3), (L + 1 + 1, o2), (L + 1, o1)] ++ (bL ++ (bT ++ (bS ++ (T3 ++ T4)))))) :
    wpAny (model Challenge.rw_pe0259_01.row.prog w) (Ar dp un gd (envOfC "law" scope L fa cd :: outer)) (execs rest (envOfC "law" scope L fa cd)) Q E s := by
  revert hdef
  k_fill
  intro hdef
  refine' law_out ?hl hdef ?_
  (case hl => k_is)
  clear hdef
  intro hdef
  cases hdef
  have codeHd := codeHd_of_K (c := 41) (P := 37) X (by kernel_rfl)
  (try dsimp only [List.drop]); (try k_fold)
  obtain ⟨dL, nL, cL, rL, trL, tn0L, tnL, tt0L, tntL, toL, tiL, tbL, vsL, hvsL, hbL⟩ := id WL
  obtain ⟨dx, nrm, ct, rv, tr, tn0, tn, tt0, tnt, to, ti, tb, vs, hvs, hbT⟩ := id WT
  obtain ⟨dx', nrm', ct', rv', tr', tn0', tn', tt0', tnt', to', ti', tb', vs', hvs', hbS⟩ := id WS
  unfold wl at F
  rw [hbL, hbT, hbS] at N
  simp only [List.cons_append, List.nil_append] at N
  have hok := law_ok hn hsn
  unfold lawOk at hok
  simp only [Bool.and_eq_true, Bool.or_eq_true, decide_eq_true_eq, beq_iff_eq, hchr, false_or] at hok
  obtain ⟨⟨hc1, hc2⟩, ⟨hc3, hc4⟩, hc5⟩ := hok
  ((repeat' ((fail_if_success (with_reducible show wpAny _ _ (call (Value.ref 136) _) _ _ _)); (first | (k_unfold; (try dsimp only)) | ((with_reducible first | show wpAny _ _ (exec _ _) _ _ _ | show wpAny _ _ (execs _ _) _ _ _); k_fold) | (k_end; wrow_close) | walk1 | (dsimp only; walk1) | (leave1; (try dsimp only))))) <;> (repeat (k_unfold; (try dsimp only))))
  rename Fr _ _ _ _ => F1
  have CL : ∀ t, Con w 10 100 136 [.ref xL, .int (((n / 2 : Nat) : Int) + 1) t] bL (fun _ v b => (∃ t, v = .int (levOf n st) t) ∧ b = bL) := fun t => indent_c w xL _ bL WL _ t (by omega) (by omega) hc1
  have N0 : News h₀ L s.heap ((D2, listOf i2.toArray kk2) :: [(173, tabObj tab), (Dt, listOf #[Value.int t0 u0, Value.int t1 u1, Value.int t2 u2] kt), (L + 1 + 1 + 1 + 1 + 1, o5), (L + 1 + 1 + 1 + 1, o4), (L + 1 + 1 + 1, o3), (L + 1 + 1, o2), (L + 1, o1)] ++ (bL ++ (bT ++ (bS ++ (T3 ++ T4))))) := by rw [hbL, hbT, hbS]; exact N
  refine use_keep (CL _) (fun _ _ _ h => h.2) B F1 X N0 T rfl rfl (fun p hp => List.mem_append_right _ (List.mem_append_left _ hp)) (by omega) (by omega) ?_
  rintro v9 h9 tk9 F2 N2 ⟨⟨t9, rfl⟩, -⟩
  clear F1 N0
  try clear F N
  (try dsimp only)
  ((repeat' ((fail_if_success (with_reducible show wpAny _ _ (call (Value.ref 63) _) _ _ _)); (first | (k_unfold; (try dsimp only)) | ((with_reducible first | show wpAny _ _ (exec _ _) _ _ _ | show wpAny _ _ (execs _ _) _ _ _); k_fold) | (k_end; wrow_close) | walk1 | (dsimp only; walk1) | (leave1; (try dsimp only))))) <;> (repeat (k_unfold; (try dsimp only))))
  rename Fr _ _ _ _ => F3
  refine dm_use (aa := ((D2, listOf i2.toArray kk2) :: [(173, tabObj tab), (Dt, listOf #[Value.int t0 u0, Value.int t1 u1, Value.int t2 u2] kt), (L + 1 + 1 + 1 + 1 + 1, o5), (L + 1 + 1 + 1 + 1, o4), (L + 1 + 1 + 1, o3), (L + 1 + 1, o2), (L + 1, o1)]) ++ (bL ++ (bT ++ bS))) (T3 := T3) (T4 := T4) S3 S4 ?_ (by omega) hc2 (by omega) B F3 X (fun q hq => N2 q ?_) T rfl rfl (by omega) (by omega) ?_
  · intro q hq r hr
    rcases List.mem_append.mp hq with hq | hq
    · exact offT q hq r hr
    · rcases List.mem_append.mp hq with hq | hq
      · exact offL q hq r hr
      · rcases List.mem_append.mp hq with hq | hq
        · exact offW q hq r (List.mem_append_right _ hr)
        · exact offS q hq r (List.mem_append_right _ (List.mem_append_right _ hr))
  · simpa only [List.append_assoc] using hq
  intro D9 T3' T4' tq9 tr9 h10 tk10 S3' S4' off9 offD9 offD9' F4 N4
  rw [hc3] at N4
  clear F3
  try clear F2
  try clear N2
  obtain ⟨lev, hlev⟩ : ∃ lev : Int, lev = levOf n st / (((n / 2 : Nat) : Int) + 1) := ⟨_, rfl⟩
  rw [← hlev] at N4 hc5
  replace N4 : News h₀ L h10 ((D9, { cls := .type "tuple", data := .seq #[.int lev tq9, .int 0 tr9] }) :: (D2, listOf i2.toArray kk2) :: [(173, tabObj tab), (Dt, listOf #[Value.int t0 u0, Value.int t1 u1, Value.int t2 u2] kt), (L + 1 + 1 + 1 + 1 + 1, o5), (L + 1 + 1 + 1 + 1, o4), (L + 1 + 1 + 1, o3), (L + 1 + 1, o2), (L + 1, o1)] ++ (bL ++ (bT ++ (bS ++ (T3' ++ T4'))))) := fun q hq => N4 q (by
    simp only [List.append_assoc, List.cons_append, List.nil_append] at hq ⊢
    exact hq)
  have NB : ∀ {h : Heap}, News h₀ L h ((D9, { cls := .type "tuple", data := .seq #[.int lev tq9, .int 0 tr9] }) :: (D2, listOf i2.toArray kk2) :: [(173, tabObj tab), (Dt, listOf #[Value.int t0 u0, Value.int t1 u1, Value.int t2 u2] kt), (L + 1 + 1 + 1 + 1 + 1, o5), (L + 1 + 1 + 1 + 1, o4), (L + 1 + 1 + 1, o3), (L + 1 + 1, o2), (L + 1, o1)] ++ (bL ++ (bT ++ (bS ++ (T3' ++ T4'))))) → ∃ nw, (∀ p ∈ bT ++ bS, p ∈ nw) ∧ News h₀ L h nw ∧ nw = ((D9, { cls := .type "tuple", data := .seq #[.int lev tq9, .int 0 tr9] }) :: (D2, listOf i2.toArray kk2) :: [(173, tabObj tab), (Dt, listOf #[Value.int t0 u0, Value.int t1 u1, Value.int t2 u2] kt), (L + 1 + 1 + 1 + 1 + 1, o5), (L + 1 + 1 + 1 + 1, o4), (L + 1 + 1 + 1, o3), (L + 1 + 1, o2), (L + 1, o1)] ++ (bL ++ (bT ++ (bS ++ (T3' ++ T4'))))) := fun N => ⟨_, fun p hp => List.mem_append_right _ (List.mem_append_right _ (by
    rcases List.mem_append.mp hp with hp | hp
    · exact List.mem_append_left _ hp
    · exact List.mem_append_right _ (List.mem_append_left _ hp))), N, rfl⟩
  obtain ⟨nw, hsel, N5, hnw⟩ := NB N4
  rw [hbL, hbT, hbS] at N4
  simp only [List.cons_append, List.nil_append] at N4
  clear N5
  (try dsimp only)
  ((repeat' ((fail_if_success (with_reducible show wpAny _ _ (call (Value.ref 143) _) _ _ _)); (first | (k_unfold; (try dsimp only)) | ((with_reducible first | show wpAny _ _ (exec _ _) _ _ _ | show wpAny _ _ (execs _ _) _ _ _); k_fold) | (k_end; wrow_close) | walk1 | (dsimp only; walk1) | (leave1; (try dsimp only))))) <;> (repeat (k_unfold; (try dsimp only))))
  rename Fr _ _ _ _ => F6
  rename News _ _ _ _ => N6
  have hq : decide ((wsOf (turnT n st).flatten).count = (wsOf (stairT n).flatten).count ∧ ((wsOf (turnT n st).flatten).b : Int) = (wsOf (stairT n).flatten).b) = true := by
    have := eqv_ok hn hsn
    rw [show (chrOf n st == 0) = false from beq_eq_false_iff_ne.mpr hchr] at this
    exact this
  refine use_keep (equal_c w xT xS _ _ bT bS WT WS (cl_ok hn hsn).1 (cl_ok hn hsn).2) (fun _ _ _ h => h.2) (news := nw) B F6 X (by rw [hnw, hbL, hbT, hbS]; exact N6) T rfl rfl hsel (by omega) (by omega) ?_
  rintro v11 h11 tk11 F7 N7 ⟨rfl, -⟩
  rw [hq]
  rw [hnw, hbL, hbT, hbS] at N7
  simp only [List.cons_append, List.nil_append] at N7
  clear F6 N6
  try clear N4
  try clear F4
  (try dsimp only)
  ((repeat' (first | (k_unfold; (try dsimp only)) | ((with_reducible first | show wpAny _ _ (exec _ _) _ _ _ | show wpAny _ _ (execs _ _) _ _ _); k_fold) | (k_end; wrow_close) | walk1 | (dsimp only; walk1) | (leave1; (try dsimp only)))) <;> (repeat (k_unfold; (try dsimp only))))
  all_goals
    (try dsimp only)
    rename Fr _ _ _ _ => F9
    rename News _ _ _ _ => N9
    first | rw [e1_ok hc5] | rw [e2_ok hc4]
    obtain ⟨p2, p3, N10⟩ := ends_of (tab := tab) S3' S4' N9 (by k_mem) (fun p hp => by
      iterate 21 apply List.Mem.tail
      exact hp)
    exact hQ _ _ _ _ _ _ F9 N10
theorem stF (hdef : lawRest ((hd.heap_1 w.params).lookup 216) 17 = some (rest, scope)) (B : Below A₀ base outer h₀) (X : (hd.heap_1 w.params).In h₀) (T : Top tp tl mean mg mb h₀)
    {sc Dt : Addr} {kt n st : Nat} {t0 t1 t2 : Int} {u0 u1 u2 un' th tp' : Tok} {text words once : Option Value} (hn : 3 ≤ n ∧ n ≤ 15 ∧ n % 2 = 1) (hsn : st < n) (hpr : (t1 * t2) % (n : Int) = (st : Int)) (hb1 : -2000 ≤ t1 ∧ t1 ≤ 2000) (hb2 : -2000 ≤ t2 ∧ t2 ≤ 2000)
    {T3 T4 : List (Addr × Obj)} {tab : Array Value} (S3 : TabSt 37 35 4 "_int2digits.<locals>.inner" T3) (S4 : TabSt 44 50 4 "_digits2int.<locals>.inner" T4)
    {o1 o2 o3 o4 o5 : Obj} {v5 : Option Value} (k2 : cellIs o2 (some (.int (n : Int) un'))) (k4 : cellIs o4 (some (.int (t1 * t2) tp'))) (k5 : cellIs o5 v5)
    {D2 : Addr} {i2 : List Value} {kk2 : Nat} (hst2 : StrsAre i2 ((List.range n).map fun k => blank (k * st % n)))
    (dDt : ∀ q ∈ [(L + 1 + 1 + 1 + 1 + 1, o5), (L + 1 + 1 + 1 + 1, o4), (L + 1 + 1 + 1, o3), (L + 1 + 1, o2), (L + 1, o1)], Dt ≠ q.1)
    (hL : 173 < L) (hd' : dp + 200 < recursionLimit) (hu : un + 2000 < cLine) (hQ : LawEnd h₀ L Q s)
    {tc : Tok} {xT : Addr} {bT : List (Addr × Obj)} (WT : WsAt w xT (wsOf (turnT n st).flatten) bT) (offW : ∀ r ∈ bT, ∀ q ∈ (D2, listOf i2.toArray kk2) :: [(173, tabObj tab), (Dt, listOf #[Value.int t0 u0, Value.int t1 u1, Value.int t2 u2] kt), (L + 1 + 1 + 1 + 1 + 1, o5), (L + 1 + 1 + 1 + 1, o4), (L + 1 + 1 + 1, o3), (L + 1 + 1, o2), (L + 1, o1)] ++ (T3 ++ T4), r.1 ≠ q.1)
    (offT : ∀ q ∈ (D2, listOf i2.toArray kk2) :: [(173, tabObj tab), (Dt, listOf #[Value.int t0 u0, Value.int t1 u1, Value.int t2 u2] kt), (L + 1 + 1 + 1 + 1 + 1, o5), (L + 1 + 1 + 1 + 1, o4), (L + 1 + 1 + 1, o3), (L + 1 + 1, o2), (L + 1, o1)], ∀ r ∈ T3 ++ T4, q.1 ≠ r.1) (dD2 : ∀ q ∈ [(173, tabObj tab), (Dt, listOf #[Value.int t0 u0, Value.int t1 u1, Value.int t2 u2] kt), (L + 1 + 1 + 1 + 1 + 1, o5), (L + 1 + 1 + 1 + 1, o4), (L + 1 + 1 + 1, o3), (L + 1 + 1, o2), (L + 1, o1)], q.1 ≠ D2)
    {xS : Addr} {bS : List (Addr × Obj)} (WS : WsAt w xS (wsOf (stairT n).flatten) bS) (offS : ∀ r ∈ bS, ∀ q ∈ (D2, listOf i2.toArray kk2) :: [(173, tabObj tab), (Dt, listOf #[Value.int t0 u0, Value.int t1 u1, Value.int t2 u2] kt), (L + 1 + 1 + 1 + 1 + 1, o5), (L + 1 + 1 + 1 + 1, o4), (L + 1 + 1 + 1, o3), (L + 1 + 1, o2), (L + 1, o1)] ++ (bT ++ (T3 ++ T4)), r.1 ≠ q.1)
    {tx : Tok} (hchr : chrOf n st ≠ 0)
    (F : Fr h₀ L s.heap (wl (some (.ref sc)) (some (.int ((n / 2 : Nat) : Int) th)) text words once (some (.ref D2)) (some (.int (chrOf n st) tc)) (some (.ref xT)) (some (.ref xS)) (some (.int ((pairs (crossF n st) n : Nat) : Int) tx)) none none))
    (N : News h₀ L s.heap ((D2, listOf i2.toArray kk2) :: [(173, tabObj tab), (Dt, listOf #[Value.int t0 u0, Value.int t1 u1, Value.int t2 u2] kt), (L + 1 + 1 + 1 + 1 + 1, o5), (L + 1 + 1 + 1 + 1, o4), (L + 1 + 1 + 1, o3), (L + 1 + 1, o2), (L + 1, o1)] ++ (bT ++ (bS ++ (T3 ++ T4))))) :
    wpAny (model Challenge.rw_pe0259_01.row.prog w) (Ar dp un gd (envOfC "law" scope L fa cd :: outer)) (execs rest (envOfC "law" scope L fa cd)) Q E s := by
  revert hdef
  k_fill
  intro hdef
  refine' law_out ?hl hdef ?_
  (case hl => k_is)
  clear hdef
  intro hdef
  cases hdef
  have codeHd := codeHd_of_K (c := 41) (P := 37) X (by kernel_rfl)
  (try dsimp only [List.drop]); (try k_fold)
  unfold wl at F
  simp only [List.cons_append, List.nil_append] at N
  ((repeat' ((fail_if_success (with_reducible show wpAny _ _ (eval (Expr.ListComp _ _ _ _) _) _ _ _)); (first | (k_unfold; (try dsimp only)) | ((with_reducible first | show wpAny _ _ (exec _ _) _ _ _ | show wpAny _ _ (execs _ _) _ _ _); k_fold) | (k_end; wrow_close) | walk1 | (dsimp only; walk1) | (leave1; (try dsimp only))))) <;> (repeat (k_unfold; (try dsimp only))))
  rename Fr _ _ _ _ => F1
  rename News _ _ _ _ => N1
  refine LCg.ListComp_U (F₀ := F1) (by with_unfolding_all rfl) (by decide) (by rfl) (by decide) (by rfl) ?_
  ((repeat' ((fail_if_success (with_reducible show wpAny _ _ (subscriptTail _ _ (Value.ref _) (Value.ref _)) _ _ _)); (first | (k_unfold; (try dsimp only)) | ((with_reducible first | show wpAny _ _ (exec _ _) _ _ _ | show wpAny _ _ (execs _ _) _ _ _); k_fold) | (k_end; wrow_close) | walk1 | (dsimp only; walk1) | (leave1; (try dsimp only))))) <;> (repeat (k_unfold; (try dsimp only))))
  rename Fr _ _ _ _ => F2
  rename News _ _ _ _ => N2
  have hil : i2.length = n := by rw [hst2.length]; simp
  refine' kms_slice_lit (zs := (i2.drop 1).take (n / 2)) F2 N2 ?l ?p ?q ?e ?_ ?s ?t ?z
  (case l => kmk_list); (case p => kmk_part); (case q => kmk_part); (case s => with_unfolding_all rfl); (case t => kmk_pure); (case z => (rw [List.size_toArray, sizeLine_eq]; omega))
  (case e => exact pick_row hil (by omega))
  intro Ds hs Fs Ns ls
  refine LCg.CompSrc.ledger (k := 0) (its := ((i2.drop 1).take (n / 2)).toArray) rfl Fs Ns (.head _) (by rw [List.size_toArray, sizeLine_eq]; simp; omega) (fun g' => ?_)
  have hzs : StrsAre ((i2.drop 1).take (n / 2)) ((List.range (n / 2)).map fun j => blank ((j + 1) * st % n)) := by
    rw [← row_part (fun k => blank (k * st % n)) (by omega : n / 2 < n)]
    exact strs_take (strs_drop hst2 1) _
  have hzl : ((i2.drop 1).take (n / 2)).toArray.size = n / 2 := by rw [List.size_toArray, hzs.length]; simp
  obtain ⟨NW, hNW⟩ : ∃ NW, NW = (Ds, listOf ((i2.drop 1).take (n / 2)).toArray 0) :: (D2, listOf i2.toArray kk2) :: [(173, tabObj tab), (Dt, listOf #[Value.int t0 u0, Value.int t1 u1, Value.int t2 u2] kt), (L + 1 + 1 + 1 + 1 + 1, o5), (L + 1 + 1 + 1 + 1, o4), (L + 1 + 1 + 1, o3), (L + 1 + 1, o2), (L + 1, o1)] ++ (bT ++ (bS ++ (T3 ++ T4))) := ⟨_, rfl⟩
  refine rest_of ((i2.drop 1).take (n / 2)).toArray.size (fun i ys news => StrsAre ys ((List.range i).map fun j => Tx (List.replicate ((j + 1) * st % n) 32 ++ [9])) ∧ news = NW) ?_ ?_ _ 0 [] _ (Nat.zero_add _) ⟨.nil, hNW.symm⟩
  · rintro i ys news v I oI C oC D m₂ h8 tk8 E' hi ⟨hys, rfl⟩ hv hns hx F11 N11 o3' ne
    obtain ⟨tx', x, hxx, rfl⟩ := strs_get hzs (by simpa using hv)
    rw [hzl] at hi
    have hxq : x = blank ((i + 1) * st % n) := by
      rw [List.getElem?_map, List.getElem?_range hi] at hxx
      exact (Option.some.inj hxx).symm
    have hq : (i + 1) * st % n < n := Nat.mod_lt _ (by omega)
    subst hNW
    clear Fs Ns F2 N2
    try clear F1 N1 F N
    (try dsimp only); (try k_fold)
    ((repeat' ((fail_if_success (with_reducible show wpAny _ _ (binaryOp Operator.Add (Value.str _ _) (Value.str _ _)) _ _ _)); (first | (k_unfold; (try dsimp only)) | ((with_reducible first | show wpAny _ _ (exec _ _) _ _ _ | show wpAny _ _ (execs _ _) _ _ _); k_fold) | (k_end; wrow_close) | walk1 | (dsimp only; walk1) | (leave1; (try dsimp only))))) <;> (repeat (k_unfold; (try dsimp only))))
    rw [hxq]
    ((repeat' ((fail_if_success (with_reducible show LCg.CompEnd _ _ _ _ _ _ _ _ _ _ _ _ _ _)); (first | ((with_reducible show wpAny _ _ (binaryOp Operator.Add (Value.str _ _) (Value.str _ _)) _ _ _); refine add_Tx lit_t (by rw [List.length_replicate]; simp only [List.length_cons, List.length_nil]; omega) ?_; intro _ _) | (k_unfold; (try dsimp only)) | ((with_reducible first | show wpAny _ _ (exec _ _) _ _ _ | show wpAny _ _ (execs _ _) _ _ _); k_fold) | (k_end; wrow_close) | walk1 | (dsimp only; walk1) | (leave1; (try dsimp only))))) <;> (repeat (k_unfold; (try dsimp only))))
    rename Fr _ _ _ _ => F14
    rename News _ _ _ _ => N14
    refine LCg.CompEnd.intro F14 N14 _ (fun q hq => hq) o3' (.inr ⟨_, .head _, rfl, _, rfl⟩) ⟨?_, rfl⟩
    rw [List.range_succ, List.map_append]
    exact kct_snoc hys
  · rintro ys news ⟨hys, rfl⟩ Dc h8 tk8 F11 N11 oD
    subst hNW
    rw [hzl] at hys
    clear Fs Ns F2 N2
    try clear F1 N1 F N
    simp only [List.cons_append, List.nil_append] at N11
    (try dsimp only); (try k_fold)
    ((repeat' ((fail_if_success (with_reducible show wpAny _ _ (call (Value.builtin "str.join") _) _ _ _)); (first | (k_unfold; (try dsimp only)) | ((with_reducible first | show wpAny _ _ (exec _ _) _ _ _ | show wpAny _ _ (execs _ _) _ _ _); k_fold) | (k_end; wrow_close) | walk1 | (dsimp only; walk1) | (leave1; (try dsimp only))))) <;> (repeat (k_unfold; (try dsimp only))))
    rename Fr _ _ _ _ => F12
    rename News _ _ _ _ => N12
    have hlt := leadT_len (n := n) (st := st) (by omega)
    refine join_T (xs := leadT n st) (News.isList N12 (.head _)) hys (by unfold leadT; rw [List.map_map]; rfl) (by unfold leadT at hlt ⊢; rw [List.length_map, List.length_range]; omega) ?_
    intro t12 tk12
    (try dsimp only)
    ((repeat' ((fail_if_success (with_reducible show wpAny _ _ (call (Value.ref 167) _) _ _ _)); (first | (k_unfold; (try dsimp only)) | ((with_reducible first | show wpAny _ _ (exec _ _) _ _ _ | show wpAny _ _ (execs _ _) _ _ _); k_fold) | (k_end; wrow_close) | walk1 | (dsimp only; walk1) | (leave1; (try dsimp only))))) <;> (repeat (k_unfold; (try dsimp only))))
    rename Fr _ _ _ _ => F13
    rename News _ _ _ _ => N13
    refine use_g (ws_new w (Tx (leadT n st).flatten) _ (by rw [Tx_len]; omega) (by rw [Tx_cps]; exact lead_ws n st)) (oth := (D2, listOf i2.toArray kk2) :: [(173, tabObj tab), (Dt, listOf #[Value.int t0 u0, Value.int t1 u1, Value.int t2 u2] kt), (L + 1 + 1 + 1 + 1 + 1, o5), (L + 1 + 1 + 1 + 1, o4), (L + 1 + 1 + 1, o3), (L + 1 + 1, o2), (L + 1, o1)] ++ (bT ++ (bS ++ (T3 ++ T4)))) B F13 X N13 T rfl rfl (fun p hp => nomatch hp) (fun p hp => .tail _ (.tail _ hp)) (fun p hp q hq => nomatch hq) (by omega) (by omega) ?_
    rintro v14 bL h14 tk14 F14 N14 ne14 - ⟨xL, rfl, WL⟩
    rw [Tx_cps] at WL
    clear F13 N13
    try clear F12 N12
    replace N14 : News h₀ L h14 ((D2, listOf i2.toArray kk2) :: [(173, tabObj tab), (Dt, listOf #[Value.int t0 u0, Value.int t1 u1, Value.int t2 u2] kt), (L + 1 + 1 + 1 + 1 + 1, o5), (L + 1 + 1 + 1 + 1, o4), (L + 1 + 1 + 1, o3), (L + 1 + 1, o2), (L + 1, o1)] ++ (bL ++ (bT ++ (bS ++ (T3 ++ T4))))) := fun q hq => by
      rcases List.mem_append.mp hq with hq | hq
      · exact N14 q (List.mem_append_right _ (List.mem_append_left _ hq))
      · rcases List.mem_append.mp hq with hq | hq
        · exact N14 q (List.mem_append_left _ hq)
        · exact N14 q (List.mem_append_right _ (List.mem_append_right _ hq))
    (try dsimp only)
    ((repeat' ((fail_if_success (with_reducible show wpAny _ _ (execs (Stmt.Assign [Expr.Name (Str.ofString "passed") _] _ _ :: _) _) _ _ _)); (first | (k_unfold; (try dsimp only)) | ((with_reducible first | show wpAny _ _ (exec _ _) _ _ _ | show wpAny _ _ (execs _ _) _ _ _); k_fold) | (k_end; wrow_close) | walk1 | (dsimp only; walk1) | (leave1; (try dsimp only))))) <;> (repeat (k_unfold; (try dsimp only))))
    (try dsimp only)
    rename Fr _ _ _ _ => F15
    rename News _ _ _ _ => N15
    have F16 : Fr h₀ L _ (wl (some (.ref sc)) (some (.int ((n / 2 : Nat) : Int) th)) text words once (some (.ref D2)) (some (.int (chrOf n st) tc)) (some (.ref xT)) (some (.ref xS)) (some (.int ((pairs (crossF n st) n : Nat) : Int) tx)) (some (.ref xL)) none) := Fr.congr F15 (by (intro y; unfold wl; (rcases Classical.em (y = "script") with rfl | h0); exact rfl; (rcases Classical.em (y = "half") with rfl | h1); exact rfl; (rcases Classical.em (y = "text") with rfl | h2); exact rfl; (rcases Classical.em (y = "words") with rfl | h3); exact rfl; (rcases Classical.em (y = "once") with rfl | h4); exact rfl; (rcases Classical.em (y = "row") with rfl | h5); exact rfl; (rcases Classical.em (y = "character") with rfl | h6); exact rfl; (rcases Classical.em (y = "turned") with rfl | h7); exact rfl; (rcases Classical.em (y = "stairs") with rfl | h8); exact rfl; (rcases Classical.em (y = "crossed") with rfl | h9); exact rfl; (rcases Classical.em (y = "lead") with rfl | h10); exact rfl; (rcases Classical.em (y = "passed") with rfl | h11); exact rfl; (try simp only [if_neg h0, if_neg h1, if_neg h2, if_neg h3, if_neg h4, if_neg h5, if_neg h6, if_neg h7, if_neg h8, if_neg h9, if_neg h10, if_neg h11]); (first | done | exact rfl | (show List.lookup y (_ :: _) = none; simp only [List.lookup, beq_eq_false_iff_ne.mpr h0, beq_eq_false_iff_ne.mpr h1, beq_eq_false_iff_ne.mpr h2, beq_eq_false_iff_ne.mpr h3, beq_eq_false_iff_ne.mpr h4, beq_eq_false_iff_ne.mpr h5, beq_eq_false_iff_ne.mpr h6, beq_eq_false_iff_ne.mpr h7, beq_eq_false_iff_ne.mpr h8, beq_eq_false_iff_ne.mpr h9, beq_eq_false_iff_ne.mpr h10, beq_eq_false_iff_ne.mpr h11]) | (simp only [List.lookup, beq_eq_false_iff_ne.mpr h0, beq_eq_false_iff_ne.mpr h1, beq_eq_false_iff_ne.mpr h2, beq_eq_false_iff_ne.mpr h3, beq_eq_false_iff_ne.mpr h4, beq_eq_false_iff_ne.mpr h5, beq_eq_false_iff_ne.mpr h6, beq_eq_false_iff_ne.mpr h7, beq_eq_false_iff_ne.mpr h8, beq_eq_false_iff_ne.mpr h9, beq_eq_false_iff_ne.mpr h10, beq_eq_false_iff_ne.mpr h11]; done))))
    exact stG (s := { s with heap := _, toks := _ }) (by exact rfl) B X T hn hsn hpr hb1 hb2 S3 S4 k2 k4 k5 hst2 dDt hL hd' hu hQ WT offW offT dD2 WS offS WL (fun r hr q hq => ne14 r hr q (List.mem_append_right _ (List.mem_append_right _ (List.mem_append_right _ hq)))) hchr F16 N15
end

section
variable {w : World} {dp un : Nat} {gd : Option (List Code)} {outer : List Env} {A₀ : Around} {base h₀ : Heap} {L fa : Addr} {cd : Value} {tp : Program} {tl : List Str} {mean : ExcName → Option Value} {mg mb : Str → Option Value} {s : Shared} {Q : Flow → Shared → Prop} {E : Value → Shared → Prop} {rest : List Stmt} {scope : Scope}
theorem item_at {prog : Program} {w : World} {A : Around} {E : Value → Shared → Prop} {s : Shared} {value slice : Expr} {l : Addr} {its : Array Value} {k : Nat} {u : Tok} {v : Value} {Q : Value → Shared → Prop}
    (hl : s.heap.IsList l its) (hk : k < 2000) (hx : its[k]? = some v) (h : Q v s)
    (hs : subscripted slice false (.ref l) (.int (k : Int) u) = operate [.ref l, .int (k : Int) u] (getItem (.ref l) (.int (k : Int) u)) := by with_unfolding_all rfl) :
    wpAny (model prog w) A (subscriptTail value slice (.ref l) (.int (k : Int) u)) Q E s :=
  tail_any hl.typeIs slot_list_getitem.lookup (wpAny_getItem_list hl (by omega) (by omega) (by simpa using hx) h) hs
theorem stE2 (hdef : lawRest ((hd.heap_1 w.params).lookup 216) 16 = some (rest, scope)) (B : Below A₀ base outer h₀) (X : (hd.heap_1 w.params).In h₀) (T : Top tp tl mean mg mb h₀)
    {sc Dt : Addr} {kt n st : Nat} {t0 t1 t2 : Int} {u0 u1 u2 un' th tp' : Tok} {text words once : Option Value} (hn : 3 ≤ n ∧ n ≤ 15 ∧ n % 2 = 1) (hsn : st < n) (hpr : (t1 * t2) % (n : Int) = (st : Int)) (hb1 : -2000 ≤ t1 ∧ t1 ≤ 2000) (hb2 : -2000 ≤ t2 ∧ t2 ≤ 2000)
    {T3 T4 : List (Addr × Obj)} {tab : Array Value} (S3 : TabSt 37 35 4 "_int2digits.<locals>.inner" T3) (S4 : TabSt 44 50 4 "_digits2int.<locals>.inner" T4)
    {o1 o2 o3 o4 o5 : Obj} {v5 : Option Value} (k2 : cellIs o2 (some (.int (n : Int) un'))) (k4 : cellIs o4 (some (.int (t1 * t2) tp'))) (k5 : cellIs o5 v5)
    {D2 : Addr} {i2 : List Value} {kk2 : Nat} (hst2 : StrsAre i2 ((List.range n).map fun k => blank (k * st % n)))
    (dDt : ∀ q ∈ [(L + 1 + 1 + 1 + 1 + 1, o5), (L + 1 + 1 + 1 + 1, o4), (L + 1 + 1 + 1, o3), (L + 1 + 1, o2), (L + 1, o1)], Dt ≠ q.1)
    (hL : 173 < L) (hd' : dp + 200 < recursionLimit) (hu : un + 2000 < cLine) (hQ : LawEnd h₀ L Q s)
    {tc : Tok} {xT : Addr} {bT : List (Addr × Obj)} (WT : WsAt w xT (wsOf (turnT n st).flatten) bT) (offW : ∀ r ∈ bT, ∀ q ∈ (D2, listOf i2.toArray kk2) :: [(173, tabObj tab), (Dt, listOf #[Value.int t0 u0, Value.int t1 u1, Value.int t2 u2] kt), (L + 1 + 1 + 1 + 1 + 1, o5), (L + 1 + 1 + 1 + 1, o4), (L + 1 + 1 + 1, o3), (L + 1 + 1, o2), (L + 1, o1)] ++ (T3 ++ T4), r.1 ≠ q.1)
    (offT : ∀ q ∈ (D2, listOf i2.toArray kk2) :: [(173, tabObj tab), (Dt, listOf #[Value.int t0 u0, Value.int t1 u1, Value.int t2 u2] kt), (L + 1 + 1 + 1 + 1 + 1, o5), (L + 1 + 1 + 1 + 1, o4), (L + 1 + 1 + 1, o3), (L + 1 + 1, o2), (L + 1, o1)], ∀ r ∈ T3 ++ T4, q.1 ≠ r.1) (dD2 : ∀ q ∈ [(173, tabObj tab), (Dt, listOf #[Value.int t0 u0, Value.int t1 u1, Value.int t2 u2] kt), (L + 1 + 1 + 1 + 1 + 1, o5), (L + 1 + 1 + 1 + 1, o4), (L + 1 + 1 + 1, o3), (L + 1 + 1, o2), (L + 1, o1)], q.1 ≠ D2)
    {xS : Addr} {bS : List (Addr × Obj)} (WS : WsAt w xS (wsOf (stairT n).flatten) bS) (offS : ∀ r ∈ bS, ∀ q ∈ (D2, listOf i2.toArray kk2) :: [(173, tabObj tab), (Dt, listOf #[Value.int t0 u0, Value.int t1 u1, Value.int t2 u2] kt), (L + 1 + 1 + 1 + 1 + 1, o5), (L + 1 + 1 + 1 + 1, o4), (L + 1 + 1 + 1, o3), (L + 1 + 1, o2), (L + 1, o1)] ++ (bT ++ (T3 ++ T4)), r.1 ≠ q.1)
    {Dl : Addr} {lv : List Value} {bl : List (Addr × Obj)} (HL : LeadsAt w lv (fun k => k * st % n) n bl) (hv5 : v5 = some (.ref Dl)) (hchr : chrOf n st ≠ 0)
    (F : Fr h₀ L s.heap (wl (some (.ref sc)) (some (.int ((n / 2 : Nat) : Int) th)) text words once (some (.ref D2)) (some (.int (chrOf n st) tc)) (some (.ref xT)) (some (.ref xS)) none none none))
    (N : News h₀ L s.heap ((Dl, LCg.lst lv) :: (D2, listOf i2.toArray kk2) :: [(173, tabObj tab), (Dt, listOf #[Value.int t0 u0, Value.int t1 u1, Value.int t2 u2] kt), (L + 1 + 1 + 1 + 1 + 1, o5), (L + 1 + 1 + 1 + 1, o4), (L + 1 + 1 + 1, o3), (L + 1 + 1, o2), (L + 1, o1)] ++ (bl ++ (bT ++ (bS ++ (T3 ++ T4)))))) :
    wpAny (model Challenge.rw_pe0259_01.row.prog w) (Ar dp un gd (envOfC "law" scope L fa cd :: outer)) (execs rest (envOfC "law" scope L fa cd)) Q E s := by
  revert hdef
  k_fill
  intro hdef
  refine' law_out ?hl hdef ?_
  (case hl => k_is)
  clear hdef
  intro hdef
  cases hdef
  have codeHd := codeHd_of_K (c := 41) (P := 37) X (by kernel_rfl)
  (try dsimp only [List.drop]); (try k_fold)
  subst hv5
  unfold wl at F
  simp only [List.cons_append, List.nil_append] at N
  ((repeat' ((fail_if_success (with_reducible show wpAny _ _ (eval (Expr.ListComp _ _ _ _) _) _ _ _)); (first | (k_unfold; (try dsimp only)) | ((with_reducible first | show wpAny _ _ (exec _ _) _ _ _ | show wpAny _ _ (execs _ _) _ _ _); k_fold) | (k_end; wrow_close) | walk1 | (dsimp only; walk1) | (leave1; (try dsimp only))))) <;> (repeat (k_unfold; (try dsimp only))))
  rename Fr _ _ _ _ => F1
  rename News _ _ _ _ => N1
  obtain ⟨NW, hNW⟩ : ∃ NW, NW = (Dl, LCg.lst lv) :: (D2, listOf i2.toArray kk2) :: [(173, tabObj tab), (Dt, listOf #[Value.int t0 u0, Value.int t1 u1, Value.int t2 u2] kt), (L + 1 + 1 + 1 + 1 + 1, o5), (L + 1 + 1 + 1 + 1, o4), (L + 1 + 1 + 1, o3), (L + 1 + 1, o2), (L + 1, o1)] ++ (bl ++ (bT ++ (bS ++ (T3 ++ T4)))) := ⟨_, rfl⟩
  refine ListComp2 (n := n) (f := crossF n st) (NW := NW) F1 rfl (by with_unfolding_all rfl) (by decide) (by rfl) (by decide) (by rfl) (by rfl) (by decide) ?_ (by omega) ?_ ?_ ?_ ?_ ?_
  · have := Nat.mul_le_mul hn.2.1 hn.2.1
    rw [sizeLine_eq]; omega
  · ((repeat' ((fail_if_success (with_reducible show RangeEnd _ _ _ _ _ _ _ _)); (first | (k_unfold; (try dsimp only)) | ((with_reducible first | show wpAny _ _ (exec _ _) _ _ _ | show wpAny _ _ (execs _ _) _ _ _); k_fold) | (k_end; wrow_close) | walk1 | (dsimp only; walk1) | (leave1; (try dsimp only))))) <;> (repeat (k_unfold; (try dsimp only))))
    rename IsRange _ _ _ _ _ _ _ _ => R4
    rename Fr _ _ _ _ => F4
    rename News _ _ _ _ => N4
    exact RangeEnd.intro R4 F4 N4 (fun p hp => by rw [hNW] at hp; exact hp)
  · intro j tj Ia oa C oC D ys m₂ h8 tk8 E' hj hns hx F11 N11
    rw [hNW] at N11 ⊢
    clear N1
    try clear F1 F N
    (try dsimp only); (try k_fold)
    simp only [List.cons_append, List.nil_append] at N11
    ((repeat' ((fail_if_success (with_reducible show RangeEnd _ _ _ _ _ _ _ _)); (first | (k_unfold; (try dsimp only)) | ((with_reducible first | show wpAny _ _ (exec _ _) _ _ _ | show wpAny _ _ (execs _ _) _ _ _); k_fold) | (k_end; wrow_close) | walk1 | (dsimp only; walk1) | (leave1; (try dsimp only))))) <;> (repeat (k_unfold; (try dsimp only))))
    rename IsRange _ _ _ _ _ _ _ _ => R4
    rename Fr _ _ _ _ => F4
    rename News _ _ _ _ => N4
    exact RangeEnd.intro R4 F4 N4 (fun p hp => hp)
  · intro j i tj ti Ia oa Ib ob C oC D ys m₂ h8 tk8 E' hj hi hns hx1 hx2 F11 N11
    obtain ⟨xj, bj, hvj, Wj, sj⟩ := HL.2 j hj
    obtain ⟨xi, bi, hvi, Wi, si⟩ := HL.2 i (by omega)
    obtain ⟨dj, nj, cj, rj, trj, tn0j, tnj, tt0j, tntj, toj, tij, tbj, vsj, hvsj, hbj⟩ := id Wj
    have hbl : ∀ p ∈ bl, p ∈ NW := fun p hp => by rw [hNW]; exact .tail _ (List.mem_append_right [(173, tabObj tab), (Dt, listOf #[Value.int t0 u0, Value.int t1 u1, Value.int t2 u2] kt), (L + 1 + 1 + 1 + 1 + 1, o5), (L + 1 + 1 + 1 + 1, o4), (L + 1 + 1 + 1, o3), (L + 1 + 1, o2), (L + 1, o1)] (List.mem_append_left _ hp) |> fun h => .tail _ h)
    have hDl : (Dl, LCg.lst lv) ∈ NW := by rw [hNW]; exact .head _
    have N0 : True → News h₀ L h8 ((Ia, oa) :: (Ib, ob) :: (C, oC) :: (D, LCg.lst ys) :: NW) := fun _ => N11
    have hl : h8.IsList Dl lv.toArray := News.isList N11 (.tail _ (.tail _ (.tail _ (.tail _ hDl))))
    replace N11 : News h₀ L h8 (bj ++ ((Ia, oa) :: (Ib, ob) :: (C, oC) :: (D, LCg.lst ys) :: (Dl, LCg.lst lv) :: (D2, listOf i2.toArray kk2) :: [(173, tabObj tab), (Dt, listOf #[Value.int t0 u0, Value.int t1 u1, Value.int t2 u2] kt), (L + 1 + 1 + 1 + 1 + 1, o5), (L + 1 + 1 + 1 + 1, o4), (L + 1 + 1 + 1, o3), (L + 1 + 1, o2), (L + 1, o1)] ++ (bl ++ (bT ++ (bS ++ (T3 ++ T4)))))) := fun q hq => by
      rcases List.mem_append.mp hq with hq | hq
      · exact N11 _ (.tail _ (.tail _ (.tail _ (.tail _ (hbl _ (sj _ hq))))))
      · rw [hNW] at N11
        exact N11 q hq
    clear N1
    try clear F1 F N
    (try dsimp only); (try k_fold)
    rw [hbj] at N11
    simp only [List.cons_append, List.nil_append] at N11
    ((repeat' ((fail_if_success (with_reducible show wpAny _ _ (subscriptTail _ _ (Value.ref _) (Value.int _ _)) _ _ _)); (first | (k_unfold; (try dsimp only)) | ((with_reducible first | show wpAny _ _ (exec _ _) _ _ _ | show wpAny _ _ (execs _ _) _ _ _); k_fold) | (k_end; wrow_close) | walk1 | (dsimp only; walk1) | (leave1; (try dsimp only))))) <;> (repeat (k_unfold; (try dsimp only))))
    refine item_at hl (by omega) (by simpa using hvj) ?_
    (try dsimp only)
    ((repeat' ((fail_if_success (with_reducible show wpAny _ _ (subscriptTail _ _ (Value.ref _) (Value.int _ _)) _ _ _)); (first | (k_unfold; (try dsimp only)) | ((with_reducible first | show wpAny _ _ (exec _ _) _ _ _ | show wpAny _ _ (execs _ _) _ _ _); k_fold) | (k_end; wrow_close) | walk1 | (dsimp only; walk1) | (leave1; (try dsimp only))))) <;> (repeat (k_unfold; (try dsimp only))))
    refine item_at hl (by omega) (by simpa using hvi) ?_
    (try dsimp only)
    ((repeat' ((fail_if_success (with_reducible show wpAny _ _ (call (Value.ref 157) _) _ _ _)); (first | (k_unfold; (try dsimp only)) | ((with_reducible first | show wpAny _ _ (exec _ _) _ _ _ | show wpAny _ _ (execs _ _) _ _ _); k_fold) | (k_end; wrow_close) | walk1 | (dsimp only; walk1) | (leave1; (try dsimp only))))) <;> (repeat (k_unfold; (try dsimp only))))
    rename Fr _ _ _ _ => F12
    clear N11
    refine use_keep (less_c w xj xi _ _ bj bi Wj Wi (by rw [wsOf_blank]; exact Nat.zero_le _) (by rw [wsOf_blank]; exact Nat.zero_le _) (by rw [wsOf_blank, wsOf_blank]; exact Nat.le_refl _)) (fun _ _ _ h => h.2) B F12 X (N0 trivial) T rfl rfl (fun p hp => .tail _ (.tail _ (.tail _ (.tail _ (hbl p ((List.mem_append.mp hp).elim (sj p) (si p))))))) (by omega) (by omega) ?_
    rintro v9 h9 tk9 F13 N13 ⟨rfl, -⟩
    rw [wsOf_blank, wsOf_blank]
    clear F12
    ((repeat' ((fail_if_success (with_reducible show TestEnd _ _ _ _ _ _ _ _)); (first | (k_unfold; (try dsimp only)) | ((with_reducible first | show wpAny _ _ (exec _ _) _ _ _ | show wpAny _ _ (execs _ _) _ _ _); k_fold) | (k_end; wrow_close) | walk1 | (dsimp only; walk1) | (leave1; (try dsimp only))))) <;> (repeat (k_unfold; (try dsimp only))))
    exact TestEnd.intro F13 N13
  · intro C s₁ Q' E' k
    refine wpAny_Constant_int ?_
    exact k _ _
  · intro D ys h9 tk9 F9 N9 off9 hyl
    have hpl := pairs_le (crossF n st) (b := n) (Nat.le_refl n)
    have hpl2 := Nat.mul_le_mul hn.2.1 hn.2.1
    clear F1 N1
    try clear F N
    (try dsimp only); (try k_fold)
    ((repeat' ((fail_if_success (with_reducible show wpAny _ _ (call (Value.builtin "len") _) _ _ _)); (first | (k_unfold; (try dsimp only)) | ((with_reducible first | show wpAny _ _ (exec _ _) _ _ _ | show wpAny _ _ (execs _ _) _ _ _); k_fold) | (k_end; wrow_close) | walk1 | (dsimp only; walk1) | (leave1; (try dsimp only))))) <;> (repeat (k_unfold; (try dsimp only))))
    refine len_list (News.isList N9 (.head _)) (by rw [List.size_toArray, hyl]; omega) ?_
    rw [List.size_toArray, hyl]
    rw [hNW] at N9
    simp only [List.cons_append, List.nil_append] at N9
    (try dsimp only)
    ((repeat' ((fail_if_success (with_reducible show wpAny _ _ (execs (Stmt.Assign [Expr.Name (Str.ofString "lead") _] _ _ :: _) _) _ _ _)); (first | (k_unfold; (try dsimp only)) | ((with_reducible first | show wpAny _ _ (exec _ _) _ _ _ | show wpAny _ _ (execs _ _) _ _ _); k_fold) | (k_end; wrow_close) | walk1 | (dsimp only; walk1) | (leave1; (try dsimp only))))) <;> (repeat (k_unfold; (try dsimp only))))
    (try dsimp only)
    rename Fr _ _ _ _ => F15
    rename News _ _ _ _ => N15
    have F16 : Fr h₀ L _ (wl (some (.ref sc)) (some (.int ((n / 2 : Nat) : Int) th)) text words once (some (.ref D2)) (some (.int (chrOf n st) tc)) (some (.ref xT)) (some (.ref xS)) (some (.int ((pairs (crossF n st) n : Nat) : Int) _)) none none) := Fr.congr F15 (by (intro y; unfold wl; (rcases Classical.em (y = "script") with rfl | h0); exact rfl; (rcases Classical.em (y = "half") with rfl | h1); exact rfl; (rcases Classical.em (y = "text") with rfl | h2); exact rfl; (rcases Classical.em (y = "words") with rfl | h3); exact rfl; (rcases Classical.em (y = "once") with rfl | h4); exact rfl; (rcases Classical.em (y = "row") with rfl | h5); exact rfl; (rcases Classical.em (y = "character") with rfl | h6); exact rfl; (rcases Classical.em (y = "turned") with rfl | h7); exact rfl; (rcases Classical.em (y = "stairs") with rfl | h8); exact rfl; (rcases Classical.em (y = "crossed") with rfl | h9); exact rfl; (rcases Classical.em (y = "lead") with rfl | h10); exact rfl; (rcases Classical.em (y = "passed") with rfl | h11); exact rfl; (try simp only [if_neg h0, if_neg h1, if_neg h2, if_neg h3, if_neg h4, if_neg h5, if_neg h6, if_neg h7, if_neg h8, if_neg h9, if_neg h10, if_neg h11]); (first | done | exact rfl | (show List.lookup y (_ :: _) = none; simp only [List.lookup, beq_eq_false_iff_ne.mpr h0, beq_eq_false_iff_ne.mpr h1, beq_eq_false_iff_ne.mpr h2, beq_eq_false_iff_ne.mpr h3, beq_eq_false_iff_ne.mpr h4, beq_eq_false_iff_ne.mpr h5, beq_eq_false_iff_ne.mpr h6, beq_eq_false_iff_ne.mpr h7, beq_eq_false_iff_ne.mpr h8, beq_eq_false_iff_ne.mpr h9, beq_eq_false_iff_ne.mpr h10, beq_eq_false_iff_ne.mpr h11]) | (simp only [List.lookup, beq_eq_false_iff_ne.mpr h0, beq_eq_false_iff_ne.mpr h1, beq_eq_false_iff_ne.mpr h2, beq_eq_false_iff_ne.mpr h3, beq_eq_false_iff_ne.mpr h4, beq_eq_false_iff_ne.mpr h5, beq_eq_false_iff_ne.mpr h6, beq_eq_false_iff_ne.mpr h7, beq_eq_false_iff_ne.mpr h8, beq_eq_false_iff_ne.mpr h9, beq_eq_false_iff_ne.mpr h10, beq_eq_false_iff_ne.mpr h11]; done))))
    refine stF (s := { s with heap := _, toks := _ }) (by exact rfl) B X T hn hsn hpr hb1 hb2 S3 S4 k2 k4 k5 hst2 dDt hL hd' hu hQ WT offW offT dD2 WS offS hchr F16 (fun q hq => ?_)
    refine N15 q (.tail _ (.tail _ ?_))
    rcases List.mem_append.mp (show q ∈ ((D2, listOf i2.toArray kk2) :: [(173, tabObj tab), (Dt, listOf #[Value.int t0 u0, Value.int t1 u1, Value.int t2 u2] kt), (L + 1 + 1 + 1 + 1 + 1, o5), (L + 1 + 1 + 1 + 1, o4), (L + 1 + 1 + 1, o3), (L + 1 + 1, o2), (L + 1, o1)]) ++ (bT ++ (bS ++ (T3 ++ T4))) from hq) with hq | hq
    · exact List.mem_append_left (bl ++ (bT ++ (bS ++ (T3 ++ T4)))) hq
    · exact List.mem_append_right ((D2, listOf i2.toArray kk2) :: [(173, tabObj tab), (Dt, listOf #[Value.int t0 u0, Value.int t1 u1, Value.int t2 u2] kt), (L + 1 + 1 + 1 + 1 + 1, o5), (L + 1 + 1 + 1 + 1, o4), (L + 1 + 1 + 1, o3), (L + 1 + 1, o2), (L + 1, o1)]) (List.mem_append_right _ hq)
end

section
variable {w : World} {dp un : Nat} {gd : Option (List Code)} {outer : List Env} {A₀ : Around} {base h₀ : Heap} {L fa : Addr} {cd : Value} {tp : Program} {tl : List Str} {mean : ExcName → Option Value} {mg mb : Str → Option Value} {s : Shared} {Q : Flow → Shared → Prop} {E : Value → Shared → Prop} {rest : List Stmt} {scope : Scope}
theorem stE1 (hdef : lawRest ((hd.heap_1 w.params).lookup 216) 15 = some (rest, scope)) (B : Below A₀ base outer h₀) (X : (hd.heap_1 w.params).In h₀) (T : Top tp tl mean mg mb h₀)
    {sc Dt : Addr} {kt n st : Nat} {t0 t1 t2 : Int} {u0 u1 u2 un' th tp' : Tok} {text words once : Option Value} (hn : 3 ≤ n ∧ n ≤ 15 ∧ n % 2 = 1) (hsn : st < n) (hpr : (t1 * t2) % (n : Int) = (st : Int)) (hb1 : -2000 ≤ t1 ∧ t1 ≤ 2000) (hb2 : -2000 ≤ t2 ∧ t2 ≤ 2000)
    {T3 T4 : List (Addr × Obj)} {tab : Array Value} (S3 : TabSt 37 35 4 "_int2digits.<locals>.inner" T3) (S4 : TabSt 44 50 4 "_digits2int.<locals>.inner" T4)
    {o1 o2 o3 o4 o5 : Obj} {v5 : Option Value} (k2 : cellIs o2 (some (.int (n : Int) un'))) (k4 : cellIs o4 (some (.int (t1 * t2) tp'))) (k5 : cellIs o5 v5)
    {D2 : Addr} {i2 : List Value} {kk2 : Nat} (hst2 : StrsAre i2 ((List.range n).map fun k => blank (k * st % n)))
    (dDt : ∀ q ∈ [(L + 1 + 1 + 1 + 1 + 1, o5), (L + 1 + 1 + 1 + 1, o4), (L + 1 + 1 + 1, o3), (L + 1 + 1, o2), (L + 1, o1)], Dt ≠ q.1)
    (hL : 173 < L) (hd' : dp + 200 < recursionLimit) (hu : un + 2000 < cLine) (hQ : LawEnd h₀ L Q s)
    {tc : Tok} {xT : Addr} {bT : List (Addr × Obj)} (WT : WsAt w xT (wsOf (turnT n st).flatten) bT) (offW : ∀ r ∈ bT, ∀ q ∈ (D2, listOf i2.toArray kk2) :: [(173, tabObj tab), (Dt, listOf #[Value.int t0 u0, Value.int t1 u1, Value.int t2 u2] kt), (L + 1 + 1 + 1 + 1 + 1, o5), (L + 1 + 1 + 1 + 1, o4), (L + 1 + 1 + 1, o3), (L + 1 + 1, o2), (L + 1, o1)] ++ (T3 ++ T4), r.1 ≠ q.1)
    (offT : ∀ q ∈ (D2, listOf i2.toArray kk2) :: [(173, tabObj tab), (Dt, listOf #[Value.int t0 u0, Value.int t1 u1, Value.int t2 u2] kt), (L + 1 + 1 + 1 + 1 + 1, o5), (L + 1 + 1 + 1 + 1, o4), (L + 1 + 1 + 1, o3), (L + 1 + 1, o2), (L + 1, o1)], ∀ r ∈ T3 ++ T4, q.1 ≠ r.1) (dD2 : ∀ q ∈ [(173, tabObj tab), (Dt, listOf #[Value.int t0 u0, Value.int t1 u1, Value.int t2 u2] kt), (L + 1 + 1 + 1 + 1 + 1, o5), (L + 1 + 1 + 1 + 1, o4), (L + 1 + 1 + 1, o3), (L + 1 + 1, o2), (L + 1, o1)], q.1 ≠ D2)
    {xS : Addr} {bS : List (Addr × Obj)} (WS : WsAt w xS (wsOf (stairT n).flatten) bS) (offS : ∀ r ∈ bS, ∀ q ∈ (D2, listOf i2.toArray kk2) :: [(173, tabObj tab), (Dt, listOf #[Value.int t0 u0, Value.int t1 u1, Value.int t2 u2] kt), (L + 1 + 1 + 1 + 1 + 1, o5), (L + 1 + 1 + 1 + 1, o4), (L + 1 + 1 + 1, o3), (L + 1 + 1, o2), (L + 1, o1)] ++ (bT ++ (T3 ++ T4)), r.1 ≠ q.1)
    (hchr : chrOf n st ≠ 0)
    (F : Fr h₀ L s.heap (wl (some (.ref sc)) (some (.int ((n / 2 : Nat) : Int) th)) text words once (some (.ref D2)) (some (.int (chrOf n st) tc)) (some (.ref xT)) (some (.ref xS)) none none none))
    (N : News h₀ L s.heap ((D2, listOf i2.toArray kk2) :: [(173, tabObj tab), (Dt, listOf #[Value.int t0 u0, Value.int t1 u1, Value.int t2 u2] kt), (L + 1 + 1 + 1 + 1 + 1, o5), (L + 1 + 1 + 1 + 1, o4), (L + 1 + 1 + 1, o3), (L + 1 + 1, o2), (L + 1, o1)] ++ (bT ++ (bS ++ (T3 ++ T4))))) :
    wpAny (model Challenge.rw_pe0259_01.row.prog w) (Ar dp un gd (envOfC "law" scope L fa cd :: outer)) (execs rest (envOfC "law" scope L fa cd)) Q E s := by
  revert hdef
  k_fill
  intro hdef
  refine' law_out ?hl hdef ?_
  (case hl => k_is)
  clear hdef
  intro hdef
  cases hdef
  have codeHd := codeHd_of_K (c := 41) (P := 37) X (by kernel_rfl)
  (try dsimp only [List.drop]); (try k_fold)
  unfold wl at F
  simp only [List.cons_append, List.nil_append] at N
  ((repeat' ((fail_if_success (with_reducible show wpAny _ _ (eval (Expr.ListComp _ _ _ _) _) _ _ _)); (first | (k_unfold; (try dsimp only)) | ((with_reducible first | show wpAny _ _ (exec _ _) _ _ _ | show wpAny _ _ (execs _ _) _ _ _); k_fold) | (k_end; wrow_close) | walk1 | (dsimp only; walk1) | (leave1; (try dsimp only))))) <;> (repeat (k_unfold; (try dsimp only))))
  rename Fr _ _ _ _ => F1
  rename News _ _ _ _ => N1
  refine LCg.ListComp_U (F₀ := F1) (by with_unfolding_all rfl) (by decide) (by rfl) (by decide) (by rfl) ?_
  ((repeat' ((fail_if_success (with_reducible show LCg.CompSrc _ _ _ _ _ _ _ _ _ _ _ _ _ _)); (first | (k_unfold; (try dsimp only)) | ((with_reducible first | show wpAny _ _ (exec _ _) _ _ _ | show wpAny _ _ (execs _ _) _ _ _); k_fold) | (k_end; wrow_close) | walk1 | (dsimp only; walk1) | (leave1; (try dsimp only))))) <;> (repeat (k_unfold; (try dsimp only))))
  rename Fr _ _ _ _ => F4
  rename News _ _ _ _ => N4
  obtain ⟨NW, hNW⟩ : ∃ NW, NW = (D2, listOf i2.toArray kk2) :: [(173, tabObj tab), (Dt, listOf #[Value.int t0 u0, Value.int t1 u1, Value.int t2 u2] kt), (L + 1 + 1 + 1 + 1 + 1, o5), (L + 1 + 1 + 1 + 1, o4), (L + 1 + 1 + 1, o3), (L + 1 + 1, o2), (L + 1, o1)] ++ (bT ++ (bS ++ (T3 ++ T4))) := ⟨_, rfl⟩
  replace N4 : News h₀ L s.heap NW := by rw [hNW]; exact N4
  have hD2 : (D2, listOf i2.toArray kk2) ∈ NW := by rw [hNW]; exact .head _
  have hil : i2.length = n := by rw [hst2.length]; simp
  refine LCg.CompSrc.ledger (k := kk2) (its := i2.toArray) rfl F4 N4 hD2 (by rw [List.size_toArray, sizeLine_eq]; omega) (fun g' => ?_)
  have hzl : i2.toArray.size = n := by rw [List.size_toArray, hil]
  refine rest_of i2.toArray.size (fun i ys news => ∃ bl, LeadsAt w ys (fun k => k * st % n) i bl ∧ news = bl ++ NW ∧ ∀ r ∈ bl, ∀ q ∈ NW, r.1 ≠ q.1) ?_ ?_ _ 0 [] _ (Nat.zero_add _) ⟨[], LeadsAt.nil, rfl, fun r hr => nomatch hr⟩
  · rintro i ys news v I oI C oC D m₂ h8 tk8 E' hi ⟨bl, HL, rfl, hbl⟩ hv hns hx F11 N11 o3' ne
    obtain ⟨tx, x, hxx, rfl⟩ := strs_get hst2 (by simpa using hv)
    rw [hzl] at hi
    have hxq : x = blank (i * st % n) := by
      rw [List.getElem?_map, List.getElem?_range hi] at hxx
      exact (Option.some.inj hxx).symm
    have hq : i * st % n < n := Nat.mod_lt _ (by omega)
    clear F4 N4
    try clear F1 N1 F N
    (try dsimp only); (try k_fold)
    ((repeat' ((fail_if_success (with_reducible show wpAny _ _ (call (Value.ref 167) _) _ _ _)); (first | (k_unfold; (try dsimp only)) | ((with_reducible first | show wpAny _ _ (exec _ _) _ _ _ | show wpAny _ _ (execs _ _) _ _ _); k_fold) | (k_end; wrow_close) | walk1 | (dsimp only; walk1) | (leave1; (try dsimp only))))) <;> (repeat (k_unfold; (try dsimp only))))
    rename Fr _ _ _ _ => F12
    rename News _ _ _ _ => N12
    rw [hxq]
    refine use_g (ws_new w (blank (i * st % n)) _ (by rw [Tx_len, List.length_replicate]; omega) (by rw [Tx_cps]; exact fun c hc => .inl (List.mem_replicate.mp hc).2)) (oth := _) B F12 X N12 T rfl rfl (fun p hp => nomatch hp) (fun p hp => hp) (fun p hp q hq => nomatch hq) (by omega) (by omega) ?_
    rintro v9 b9 h9 tk9 F13 N13 ne9 - ⟨x9, rfl, W9⟩
    rw [Tx_cps] at W9
    clear F12 N12
    (try dsimp only)
    ((repeat' ((fail_if_success (with_reducible show LCg.CompEnd _ _ _ _ _ _ _ _ _ _ _ _ _ _)); (first | (k_unfold; (try dsimp only)) | ((with_reducible first | show wpAny _ _ (exec _ _) _ _ _ | show wpAny _ _ (execs _ _) _ _ _); k_fold) | (k_end; wrow_close) | walk1 | (dsimp only; walk1) | (leave1; (try dsimp only))))) <;> (repeat (k_unfold; (try dsimp only))))
    rename Fr _ _ _ _ => F14
    rename News _ _ _ _ => N14
    refine LCg.CompEnd.intro F14 N14 ((b9 ++ bl) ++ NW) (fun q hq => ?_) (LCg.Off3.of fun p hp => ?_) (.inr ⟨_, List.mem_append_right _ hD2, rfl, _, rfl⟩) ⟨b9 ++ bl, HL.snoc W9, rfl, fun r hr q hq => ?_⟩
    · rcases List.mem_cons.mp hq with rfl | hq
      · exact List.mem_append_right _ (.head _)
      · rcases List.mem_cons.mp hq with rfl | hq
        · exact List.mem_append_right _ (.tail _ (.head _))
        · rcases List.mem_cons.mp hq with rfl | hq
          · exact List.mem_append_right _ (.tail _ (.tail _ (.head _)))
          · rcases List.mem_append.mp hq with hq | hq
            · rcases List.mem_append.mp hq with hq | hq
              · exact List.mem_append_left _ hq
              · exact List.mem_append_right _ (.tail _ (.tail _ (.tail _ (List.mem_append_left _ hq))))
            · exact List.mem_append_right _ (.tail _ (.tail _ (.tail _ (List.mem_append_right _ hq))))
    · rw [List.append_assoc] at hp
      rcases List.mem_append.mp hp with hp | hp
      · exact ⟨ne9 p hp (I, oI) (.head _), ne9 p hp (C, oC) (.tail _ (.head _)), ne9 p hp (D, _) (.tail _ (.tail _ (.head _)))⟩
      · exact o3'.mem p hp
    · rcases List.mem_append.mp hr with hr | hr
      · exact ne9 r hr q (.tail _ (.tail _ (.tail _ (List.mem_append_right _ hq))))
      · exact hbl r hr q hq
  · rintro lv news ⟨bl, HL, rfl, hbl⟩ Dc h8 tk8 F11 N11 oD
    subst hNW
    rw [hzl] at HL
    clear F4 N4
    try clear F1 N1 F N
    have e5 : ∀ q ∈ bl ++ (bT ++ (bS ++ (T3 ++ T4))), q.1 ≠ L + 1 + 1 + 1 + 1 + 1 := fun q hq => by
      rcases List.mem_append.mp hq with hq | hq
      · exact hbl q hq (L + 1 + 1 + 1 + 1 + 1, o5) (.tail _ (.tail _ (.tail _ (.head _))))
      · rcases List.mem_append.mp hq with hq | hq
        · exact offW q hq (L + 1 + 1 + 1 + 1 + 1, o5) (.tail _ (.tail _ (.tail _ (.head _))))
        · rcases List.mem_append.mp hq with hq | hq
          · exact offS q hq (L + 1 + 1 + 1 + 1 + 1, o5) (.tail _ (.tail _ (.tail _ (.head _))))
          · exact (offT (L + 1 + 1 + 1 + 1 + 1, o5) (.tail _ (.tail _ (.tail _ (.head _)))) q hq).symm
    have oD' := Off1_mem oD
    have e6 : L + 1 + 1 + 1 + 1 + 1 ≠ Dc := oD' (L + 1 + 1 + 1 + 1 + 1, o5) (List.mem_append_right _ (.tail _ (.tail _ (.tail _ (.head _)))))
    have e7 : L + 1 + 1 + 1 + 1 + 1 ≠ D2 := dD2 (L + 1 + 1 + 1 + 1 + 1, o5) (.tail _ (.tail _ (.head _)))
    have e8 : Dt ≠ L + 1 + 1 + 1 + 1 + 1 := dDt (L + 1 + 1 + 1 + 1 + 1, o5) (.head _)
    have c6 := kn37 hL
    replace N11 : News h₀ L h8 ((Dc, LCg.lst lv) :: (D2, listOf i2.toArray kk2) :: [(173, tabObj tab), (Dt, listOf #[Value.int t0 u0, Value.int t1 u1, Value.int t2 u2] kt), (L + 1 + 1 + 1 + 1 + 1, o5), (L + 1 + 1 + 1 + 1, o4), (L + 1 + 1 + 1, o3), (L + 1 + 1, o2), (L + 1, o1)] ++ (bl ++ (bT ++ (bS ++ (T3 ++ T4))))) := fun q hq => by
      rcases List.mem_cons.mp hq with rfl | hq
      · exact N11 _ (.head _)
      · rcases List.mem_append.mp (show q ∈ ((D2, listOf i2.toArray kk2) :: [(173, tabObj tab), (Dt, listOf #[Value.int t0 u0, Value.int t1 u1, Value.int t2 u2] kt), (L + 1 + 1 + 1 + 1 + 1, o5), (L + 1 + 1 + 1 + 1, o4), (L + 1 + 1 + 1, o3), (L + 1 + 1, o2), (L + 1, o1)]) ++ (bl ++ (bT ++ (bS ++ (T3 ++ T4)))) from hq) with hq | hq
        · exact N11 _ (.tail _ (List.mem_append_right _ (List.mem_append_left _ hq)))
        · rcases List.mem_append.mp hq with hq | hq
          · exact N11 _ (.tail _ (List.mem_append_left _ hq))
          · exact N11 _ (.tail _ (List.mem_append_right _ (List.mem_append_right _ hq)))
    simp only [List.cons_append, List.nil_append] at N11
    (try dsimp only); (try k_fold)
    ((repeat' ((fail_if_success (with_reducible show wpAny _ _ (execs (Stmt.Assign [Expr.Name (Str.ofString "crossed") _] _ _ :: _) _) _ _ _)); (first | (k_unfold; (try dsimp only)) | ((with_reducible first | show wpAny _ _ (exec _ _) _ _ _ | show wpAny _ _ (execs _ _) _ _ _); k_fold) | (k_end; wrow_close) | walk1 | (dsimp only; walk1) | (leave1; (try dsimp only))))) <;> (repeat (k_unfold; (try dsimp only))))
    rename_i o5' _ _ d5'
    rename Fr _ _ _ _ => F12
    rename News _ _ _ _ => N12
    (try dsimp only)
    have F16 : Fr h₀ L _ (wl (some (.ref sc)) (some (.int ((n / 2 : Nat) : Int) th)) text words once (some (.ref D2)) (some (.int (chrOf n st) tc)) (some (.ref xT)) (some (.ref xS)) none none none) := Fr.congr F12 (by (intro y; unfold wl; (rcases Classical.em (y = "script") with rfl | h0); exact rfl; (rcases Classical.em (y = "half") with rfl | h1); exact rfl; (rcases Classical.em (y = "text") with rfl | h2); exact rfl; (rcases Classical.em (y = "words") with rfl | h3); exact rfl; (rcases Classical.em (y = "once") with rfl | h4); exact rfl; (rcases Classical.em (y = "row") with rfl | h5); exact rfl; (rcases Classical.em (y = "character") with rfl | h6); exact rfl; (rcases Classical.em (y = "turned") with rfl | h7); exact rfl; (rcases Classical.em (y = "stairs") with rfl | h8); exact rfl; (rcases Classical.em (y = "crossed") with rfl | h9); exact rfl; (rcases Classical.em (y = "lead") with rfl | h10); exact rfl; (rcases Classical.em (y = "passed") with rfl | h11); exact rfl; (try simp only [if_neg h0, if_neg h1, if_neg h2, if_neg h3, if_neg h4, if_neg h5, if_neg h6, if_neg h7, if_neg h8, if_neg h9, if_neg h10, if_neg h11]); (first | done | exact rfl | (show List.lookup y (_ :: _) = none; simp only [List.lookup, beq_eq_false_iff_ne.mpr h0, beq_eq_false_iff_ne.mpr h1, beq_eq_false_iff_ne.mpr h2, beq_eq_false_iff_ne.mpr h3, beq_eq_false_iff_ne.mpr h4, beq_eq_false_iff_ne.mpr h5, beq_eq_false_iff_ne.mpr h6, beq_eq_false_iff_ne.mpr h7, beq_eq_false_iff_ne.mpr h8, beq_eq_false_iff_ne.mpr h9, beq_eq_false_iff_ne.mpr h10, beq_eq_false_iff_ne.mpr h11]) | (simp only [List.lookup, beq_eq_false_iff_ne.mpr h0, beq_eq_false_iff_ne.mpr h1, beq_eq_false_iff_ne.mpr h2, beq_eq_false_iff_ne.mpr h3, beq_eq_false_iff_ne.mpr h4, beq_eq_false_iff_ne.mpr h5, beq_eq_false_iff_ne.mpr h6, beq_eq_false_iff_ne.mpr h7, beq_eq_false_iff_ne.mpr h8, beq_eq_false_iff_ne.mpr h9, beq_eq_false_iff_ne.mpr h10, beq_eq_false_iff_ne.mpr h11]; done))))
    refine stE2 (s := { s with heap := _, toks := _ }) (by exact rfl) B X T hn hsn hpr hb1 hb2 S3 S4 k2 k4 d5' hst2 ?_ hL hd' hu hQ WT ?_ ?_ ?_ WS ?_ HL rfl hchr F16 N12
    · exact fst_forall (P := fun x => Dt ≠ x) (by rfl) dDt
    · exact fun r hr => fst_forall (P := fun x => r.1 ≠ x) (by rfl) (offW r hr)
    · exact fst_forall (P := fun x => ∀ r ∈ T3 ++ T4, x ≠ r.1) (by rfl) offT
    · exact fst_forall (P := fun x => x ≠ D2) (by rfl) dD2
    · exact fun r hr => fst_forall (P := fun x => r.1 ≠ x) (by rfl) (offS r hr)
end

section
variable {w : World} {dp un : Nat} {gd : Option (List Code)} {outer : List Env} {A₀ : Around} {base h₀ : Heap} {L fa : Addr} {cd : Value} {tp : Program} {tl : List Str} {mean : ExcName → Option Value} {mg mb : Str → Option Value} {s : Shared} {Q : Flow → Shared → Prop} {E : Value → Shared → Prop} {rest : List Stmt} {scope : Scope}
theorem stD4 (hdef : lawRest ((hd.heap_1 w.params).lookup 216) 14 = some (rest, scope)) (B : Below A₀ base outer h₀) (X : (hd.heap_1 w.params).In h₀) (T : Top tp tl mean mg mb h₀)
    {sc Dt : Addr} {kt n st : Nat} {t0 t1 t2 : Int} {u0 u1 u2 un' th tp' : Tok} {text words once : Option Value} (hn : 3 ≤ n ∧ n ≤ 15 ∧ n % 2 = 1) (hsn : st < n) (hpr : (t1 * t2) % (n : Int) = (st : Int)) (hb1 : -2000 ≤ t1 ∧ t1 ≤ 2000) (hb2 : -2000 ≤ t2 ∧ t2 ≤ 2000)
    {T3 T4 : List (Addr × Obj)} {tab : Array Value} (S3 : TabSt 37 35 4 "_int2digits.<locals>.inner" T3) (S4 : TabSt 44 50 4 "_digits2int.<locals>.inner" T4)
    {o1 o2 o3 o4 o5 : Obj} {v5 : Option Value} (k2 : cellIs o2 (some (.int (n : Int) un'))) (k4 : cellIs o4 (some (.int (t1 * t2) tp'))) (k5 : cellIs o5 v5)
    {D2 : Addr} {i2 : List Value} {kk2 : Nat} (hst2 : StrsAre i2 ((List.range n).map fun k => blank (k * st % n)))
    (dDt : ∀ q ∈ [(L + 1 + 1 + 1 + 1 + 1, o5), (L + 1 + 1 + 1 + 1, o4), (L + 1 + 1 + 1, o3), (L + 1 + 1, o2), (L + 1, o1)], Dt ≠ q.1)
    (hL : 173 < L) (hd' : dp + 200 < recursionLimit) (hu : un + 2000 < cLine) (hQ : LawEnd h₀ L Q s)
    {tc : Tok} {xT : Addr} {bT : List (Addr × Obj)} (WT : WsAt w xT (wsOf (turnT n st).flatten) bT) (offW : ∀ r ∈ bT, ∀ q ∈ (D2, listOf i2.toArray kk2) :: [(173, tabObj tab), (Dt, listOf #[Value.int t0 u0, Value.int t1 u1, Value.int t2 u2] kt), (L + 1 + 1 + 1 + 1 + 1, o5), (L + 1 + 1 + 1 + 1, o4), (L + 1 + 1 + 1, o3), (L + 1 + 1, o2), (L + 1, o1)] ++ (T3 ++ T4), r.1 ≠ q.1)
    (offT : ∀ q ∈ (D2, listOf i2.toArray kk2) :: [(173, tabObj tab), (Dt, listOf #[Value.int t0 u0, Value.int t1 u1, Value.int t2 u2] kt), (L + 1 + 1 + 1 + 1 + 1, o5), (L + 1 + 1 + 1 + 1, o4), (L + 1 + 1 + 1, o3), (L + 1 + 1, o2), (L + 1, o1)], ∀ r ∈ T3 ++ T4, q.1 ≠ r.1) (dD2 : ∀ q ∈ [(173, tabObj tab), (Dt, listOf #[Value.int t0 u0, Value.int t1 u1, Value.int t2 u2] kt), (L + 1 + 1 + 1 + 1 + 1, o5), (L + 1 + 1 + 1 + 1, o4), (L + 1 + 1 + 1, o3), (L + 1 + 1, o2), (L + 1, o1)], q.1 ≠ D2)
    {xS : Addr} {bS : List (Addr × Obj)} (WS : WsAt w xS (wsOf (stairT n).flatten) bS) (offS : ∀ r ∈ bS, ∀ q ∈ (D2, listOf i2.toArray kk2) :: [(173, tabObj tab), (Dt, listOf #[Value.int t0 u0, Value.int t1 u1, Value.int t2 u2] kt), (L + 1 + 1 + 1 + 1 + 1, o5), (L + 1 + 1 + 1 + 1, o4), (L + 1 + 1 + 1, o3), (L + 1 + 1, o2), (L + 1, o1)] ++ (bT ++ (T3 ++ T4)), r.1 ≠ q.1)
    (F : Fr h₀ L s.heap (wl (some (.ref sc)) (some (.int ((n / 2 : Nat) : Int) th)) text words once (some (.ref D2)) (some (.int (chrOf n st) tc)) (some (.ref xT)) (some (.ref xS)) none none none))
    (N : News h₀ L s.heap ((D2, listOf i2.toArray kk2) :: [(173, tabObj tab), (Dt, listOf #[Value.int t0 u0, Value.int t1 u1, Value.int t2 u2] kt), (L + 1 + 1 + 1 + 1 + 1, o5), (L + 1 + 1 + 1 + 1, o4), (L + 1 + 1 + 1, o3), (L + 1 + 1, o2), (L + 1, o1)] ++ (bT ++ (bS ++ (T3 ++ T4))))) :
    wpAny (model Challenge.rw_pe0259_01.row.prog w) (Ar dp un gd (envOfC "law" scope L fa cd :: outer)) (execs rest (envOfC "law" scope L fa cd)) Q E s := by
  revert hdef
  k_fill
  intro hdef
  refine' law_out ?hl hdef ?_
  (case hl => k_is)
  clear hdef
  intro hdef
  cases hdef
  have codeHd := codeHd_of_K (c := 41) (P := 37) X (by kernel_rfl)
  (try dsimp only [List.drop]); (try k_fold)
  obtain ⟨dx, nrm, ct, rv, tr, tn0, tn, tt0, tnt, to, ti, tb, vs, hvs, hbT⟩ := id WT
  obtain ⟨dx', nrm', ct', rv', tr', tn0', tn', tt0', tnt', to', ti', tb', vs', hvs', hbS⟩ := id WS
  unfold wl at F
  rw [hbT, hbS] at N
  simp only [List.cons_append, List.nil_append] at N
  ((repeat' ((fail_if_success (with_reducible show wpAny _ _ (call (Value.ref 143) _) _ _ _)); (fail_if_success (with_reducible show wpAny _ _ (execs (Stmt.Assign [Expr.Name (Str.ofString "leads") _] _ _ :: _) _) _ _ _)); (first | (k_unfold; (try dsimp only)) | ((with_reducible first | show wpAny _ _ (exec _ _) _ _ _ | show wpAny _ _ (execs _ _) _ _ _); k_fold) | (k_end; wrow_close) | walk1 | (dsimp only; walk1) | (leave1; (try dsimp only))))) <;> (repeat (k_unfold; (try dsimp only))))
  · rename Fr _ _ _ _ => F1
    rename News _ _ _ _ => N1
    have N0 : News h₀ L s.heap ((D2, listOf i2.toArray kk2) :: [(173, tabObj tab), (Dt, listOf #[Value.int t0 u0, Value.int t1 u1, Value.int t2 u2] kt), (L + 1 + 1 + 1 + 1 + 1, o5), (L + 1 + 1 + 1 + 1, o4), (L + 1 + 1 + 1, o3), (L + 1 + 1, o2), (L + 1, o1)] ++ (bT ++ (bS ++ (T3 ++ T4)))) := by
      rw [hbT, hbS]; exact N1
    clear N1
    rename chrOf n st = 0 => hc0
    try clear F
    refine use_g (equal_c w xT xS _ _ bT bS WT WS (cl_ok hn hsn).1 (cl_ok hn hsn).2) (oth := ((D2, listOf i2.toArray kk2) :: [(173, tabObj tab), (Dt, listOf #[Value.int t0 u0, Value.int t1 u1, Value.int t2 u2] kt), (L + 1 + 1 + 1 + 1 + 1, o5), (L + 1 + 1 + 1 + 1, o4), (L + 1 + 1 + 1, o3), (L + 1 + 1, o2), (L + 1, o1)]) ++ (T3 ++ T4)) B F1 X N0 T rfl rfl (sel_two (aa := (D2, listOf i2.toArray kk2) :: [(173, tabObj tab), (Dt, listOf #[Value.int t0 u0, Value.int t1 u1, Value.int t2 u2] kt), (L + 1 + 1 + 1 + 1 + 1, o5), (L + 1 + 1 + 1 + 1, o4), (L + 1 + 1 + 1, o3), (L + 1 + 1, o2), (L + 1, o1)])) (oth_two (aa := (D2, listOf i2.toArray kk2) :: [(173, tabObj tab), (Dt, listOf #[Value.int t0 u0, Value.int t1 u1, Value.int t2 u2] kt), (L + 1 + 1 + 1 + 1 + 1, o5), (L + 1 + 1 + 1 + 1, o4), (L + 1 + 1 + 1, o3), (L + 1 + 1, o2), (L + 1, o1)])) (off_two (aa := (D2, listOf i2.toArray kk2) :: [(173, tabObj tab), (Dt, listOf #[Value.int t0 u0, Value.int t1 u1, Value.int t2 u2] kt), (L + 1 + 1 + 1 + 1 + 1, o5), (L + 1 + 1 + 1 + 1, o4), (L + 1 + 1 + 1, o3), (L + 1 + 1, o2), (L + 1, o1)]) offW offS) (by omega) (by omega) ?_
    rintro v9 blk9 h9 tk9 F2 N2 - - ⟨rfl, rfl⟩
    have hq : decide ((wsOf (turnT n st).flatten).count = (wsOf (stairT n).flatten).count ∧ ((wsOf (turnT n st).flatten).b : Int) = (wsOf (stairT n).flatten).b) = false := by
      have := eqv_ok hn hsn
      rw [hc0] at this
      exact this
    rw [hq]
    clear F1
    try clear N N0
    (try dsimp only)
    ((repeat' (first | (k_unfold; (try dsimp only)) | ((with_reducible first | show wpAny _ _ (exec _ _) _ _ _ | show wpAny _ _ (execs _ _) _ _ _); k_fold) | (k_end; wrow_close) | walk1 | (dsimp only; walk1) | (leave1; (try dsimp only)))) <;> (repeat (k_unfold; (try dsimp only))))
    obtain ⟨p2, p3, N3⟩ := ends_of (tab := tab) S3 S4 N2 (List.mem_append_right _ (List.mem_append_left _ (.tail _ (.head _)))) (fun p hp => List.mem_append_right _ (List.mem_append_right _ hp))
    exact hQ _ _ _ _ _ _ F2 N3
  · (try dsimp only)
    exact stE1 (s := { s with heap := _, toks := _ }) (by exact rfl) B X T hn hsn hpr hb1 hb2 S3 S4 k2 k4 k5 hst2 dDt hL hd' hu hQ WT offW offT dD2 WS offS (by assumption) (Fr.congr F (by (intro y; unfold wl; (rcases Classical.em (y = "script") with rfl | h0); exact rfl; (rcases Classical.em (y = "half") with rfl | h1); exact rfl; (rcases Classical.em (y = "text") with rfl | h2); exact rfl; (rcases Classical.em (y = "words") with rfl | h3); exact rfl; (rcases Classical.em (y = "once") with rfl | h4); exact rfl; (rcases Classical.em (y = "row") with rfl | h5); exact rfl; (rcases Classical.em (y = "character") with rfl | h6); exact rfl; (rcases Classical.em (y = "turned") with rfl | h7); exact rfl; (rcases Classical.em (y = "stairs") with rfl | h8); exact rfl; (rcases Classical.em (y = "crossed") with rfl | h9); exact rfl; (rcases Classical.em (y = "lead") with rfl | h10); exact rfl; (rcases Classical.em (y = "passed") with rfl | h11); exact rfl; (try simp only [if_neg h0, if_neg h1, if_neg h2, if_neg h3, if_neg h4, if_neg h5, if_neg h6, if_neg h7, if_neg h8, if_neg h9, if_neg h10, if_neg h11]); (first | done | exact rfl | (show List.lookup y (_ :: _) = none; simp only [List.lookup, beq_eq_false_iff_ne.mpr h0, beq_eq_false_iff_ne.mpr h1, beq_eq_false_iff_ne.mpr h2, beq_eq_false_iff_ne.mpr h3, beq_eq_false_iff_ne.mpr h4, beq_eq_false_iff_ne.mpr h5, beq_eq_false_iff_ne.mpr h6, beq_eq_false_iff_ne.mpr h7, beq_eq_false_iff_ne.mpr h8, beq_eq_false_iff_ne.mpr h9, beq_eq_false_iff_ne.mpr h10, beq_eq_false_iff_ne.mpr h11]) | (simp only [List.lookup, beq_eq_false_iff_ne.mpr h0, beq_eq_false_iff_ne.mpr h1, beq_eq_false_iff_ne.mpr h2, beq_eq_false_iff_ne.mpr h3, beq_eq_false_iff_ne.mpr h4, beq_eq_false_iff_ne.mpr h5, beq_eq_false_iff_ne.mpr h6, beq_eq_false_iff_ne.mpr h7, beq_eq_false_iff_ne.mpr h8, beq_eq_false_iff_ne.mpr h9, beq_eq_false_iff_ne.mpr h10, beq_eq_false_iff_ne.mpr h11]; done))))) (by rw [hbT, hbS]; exact N)
end

section
variable {w : World} {dp un : Nat} {gd : Option (List Code)} {outer : List Env} {A₀ : Around} {base h₀ : Heap} {L fa : Addr} {cd : Value} {tp : Program} {tl : List Str} {mean : ExcName → Option Value} {mg mb : Str → Option Value} {s : Shared} {Q : Flow → Shared → Prop} {E : Value → Shared → Prop} {rest : List Stmt} {scope : Scope}
theorem prod_small {t1 t2 : Int} (h1 : -2000 ≤ t1 ∧ t1 ≤ 2000) (h2 : -2000 ≤ t2 ∧ t2 ≤ 2000) : (t1 * t2).natAbs < 2 ^ 59 := by
  rw [Int.natAbs_mul]
  have : t1.natAbs * t2.natAbs ≤ 2000 * 2000 := Nat.mul_le_mul (by omega) (by omega)
  exact Nat.lt_of_le_of_lt this (by decide)
theorem euler_all : ∀ st < 16, ∀ p ∈ [3, 5, 7, 11, 13], st ^ (p / 2) % p = 0 ∨ st ^ (p / 2) % p = 1 ∨ st ^ (p / 2) % p = p - 1 := by decide +kernel
theorem euler (st : Nat) (h : st < 16) : ∀ p ∈ [3, 5, 7, 11, 13], st ^ (p / 2) % p = 0 ∨ st ^ (p / 2) % p = 1 ∨ st ^ (p / 2) % p = p - 1 := euler_all st h
theorem stD3 (hdef : lawRest ((hd.heap_1 w.params).lookup 216) 13 = some (rest, scope)) (B : Below A₀ base outer h₀) (X : (hd.heap_1 w.params).In h₀) (T : Top tp tl mean mg mb h₀)
    {sc Dt : Addr} {kt n st : Nat} {t0 t1 t2 : Int} {u0 u1 u2 un' th tp' : Tok} {text words once : Option Value} (hn : 3 ≤ n ∧ n ≤ 15 ∧ n % 2 = 1) (hsn : st < n) (hpr : (t1 * t2) % (n : Int) = (st : Int)) (hb1 : -2000 ≤ t1 ∧ t1 ≤ 2000) (hb2 : -2000 ≤ t2 ∧ t2 ≤ 2000)
    {T3 T4 : List (Addr × Obj)} {tab : Array Value} (S3 : TabSt 37 35 4 "_int2digits.<locals>.inner" T3) (S4 : TabSt 44 50 4 "_digits2int.<locals>.inner" T4)
    {o1 o2 o3 o4 o5 : Obj} {v5 : Option Value} (k2 : cellIs o2 (some (.int (n : Int) un'))) (k4 : cellIs o4 (some (.int (t1 * t2) tp'))) (k5 : cellIs o5 v5)
    {D2 : Addr} {i2 : List Value} {kk2 : Nat} (hst2 : StrsAre i2 ((List.range n).map fun k => blank (k * st % n)))
    (dDt : ∀ q ∈ [(L + 1 + 1 + 1 + 1 + 1, o5), (L + 1 + 1 + 1 + 1, o4), (L + 1 + 1 + 1, o3), (L + 1 + 1, o2), (L + 1, o1)], Dt ≠ q.1)
    (hL : 173 < L) (hd' : dp + 200 < recursionLimit) (hu : un + 2000 < cLine) (hQ : LawEnd h₀ L Q s)
    {tc : Tok} {xT : Addr} {bT : List (Addr × Obj)} (WT : WsAt w xT (wsOf (turnT n st).flatten) bT) (offW : ∀ r ∈ bT, ∀ q ∈ (D2, listOf i2.toArray kk2) :: [(173, tabObj tab), (Dt, listOf #[Value.int t0 u0, Value.int t1 u1, Value.int t2 u2] kt), (L + 1 + 1 + 1 + 1 + 1, o5), (L + 1 + 1 + 1 + 1, o4), (L + 1 + 1 + 1, o3), (L + 1 + 1, o2), (L + 1, o1)] ++ (T3 ++ T4), r.1 ≠ q.1)
    (offT : ∀ q ∈ (D2, listOf i2.toArray kk2) :: [(173, tabObj tab), (Dt, listOf #[Value.int t0 u0, Value.int t1 u1, Value.int t2 u2] kt), (L + 1 + 1 + 1 + 1 + 1, o5), (L + 1 + 1 + 1 + 1, o4), (L + 1 + 1 + 1, o3), (L + 1 + 1, o2), (L + 1, o1)], ∀ r ∈ T3 ++ T4, q.1 ≠ r.1) (dD2 : ∀ q ∈ [(173, tabObj tab), (Dt, listOf #[Value.int t0 u0, Value.int t1 u1, Value.int t2 u2] kt), (L + 1 + 1 + 1 + 1 + 1, o5), (L + 1 + 1 + 1 + 1, o4), (L + 1 + 1 + 1, o3), (L + 1 + 1, o2), (L + 1, o1)], q.1 ≠ D2)
    (F : Fr h₀ L s.heap (wl (some (.ref sc)) (some (.int ((n / 2 : Nat) : Int) th)) text words once (some (.ref D2)) (some (.int (chrOf n st) tc)) (some (.ref xT)) none none none none))
    (N : News h₀ L s.heap ((D2, listOf i2.toArray kk2) :: [(173, tabObj tab), (Dt, listOf #[Value.int t0 u0, Value.int t1 u1, Value.int t2 u2] kt), (L + 1 + 1 + 1 + 1 + 1, o5), (L + 1 + 1 + 1 + 1, o4), (L + 1 + 1 + 1, o3), (L + 1 + 1, o2), (L + 1, o1)] ++ (bT ++ (T3 ++ T4)))) :
    wpAny (model Challenge.rw_pe0259_01.row.prog w) (Ar dp un gd (envOfC "law" scope L fa cd :: outer)) (execs rest (envOfC "law" scope L fa cd)) Q E s := by
  revert hdef
  k_fill
  intro hdef
  refine' law_out ?hl hdef ?_
  (case hl => k_is)
  clear hdef
  intro hdef
  cases hdef
  have codeHd := codeHd_of_K (c := 41) (P := 37) X (by kernel_rfl)
  (try dsimp only [List.drop]); (try k_fold)
  unfold wl at F
  simp only [List.cons_append, List.nil_append] at N
  ((repeat' ((fail_if_success (with_reducible show wpAny _ _ (eval (Expr.ListComp _ _ _ _) _) _ _ _)); (first | (k_unfold; (try dsimp only)) | ((with_reducible first | show wpAny _ _ (exec _ _) _ _ _ | show wpAny _ _ (execs _ _) _ _ _); k_fold) | (k_end; wrow_close) | walk1 | (dsimp only; walk1) | (leave1; (try dsimp only))))) <;> (repeat (k_unfold; (try dsimp only))))
  rename Fr _ _ _ _ => F1
  rename News _ _ _ _ => N1
  refine LCg.ListComp_U (F₀ := F1) (by with_unfolding_all rfl) (by decide) (by rfl) (by decide) (by rfl) ?_
  ((repeat' ((fail_if_success (with_reducible show LCg.CompSrc _ _ _ _ _ _ _ _ _ _ _ _ _ _)); (first | (k_unfold; (try dsimp only)) | ((with_reducible first | show wpAny _ _ (exec _ _) _ _ _ | show wpAny _ _ (execs _ _) _ _ _); k_fold) | (k_end; wrow_close) | walk1 | (dsimp only; walk1) | (leave1; (try dsimp only))))) <;> (repeat (k_unfold; (try dsimp only))))
  rename IsRange _ _ _ _ _ _ _ _ => R4
  rename Fr _ _ _ _ => F4
  rename News _ _ _ _ => N4
  obtain ⟨NW, hNW⟩ : ∃ NW, NW = (D2, listOf i2.toArray kk2) :: [(173, tabObj tab), (Dt, listOf #[Value.int t0 u0, Value.int t1 u1, Value.int t2 u2] kt), (L + 1 + 1 + 1 + 1 + 1, o5), (L + 1 + 1 + 1 + 1, o4), (L + 1 + 1 + 1, o3), (L + 1 + 1, o2), (L + 1, o1)] ++ (bT ++ (T3 ++ T4)) := ⟨_, rfl⟩
  refine LCg.CompSrc.range (n := n / 2) (news := NW) rfl F4 (by rw [hNW]; exact N4) R4 (small_one (by omega) (by omega) (by omega) (by omega)) (by rw [rangeSize_nat]; omega) (by rw [sizeLine_eq]; omega) (fun g' => ?_)
  refine rest_of (n / 2) (fun i ys news => StrsAre ys ((List.range i).map fun j => Tx (List.replicate (j + 1) 32 ++ [9])) ∧ news = NW) ?_ ?_ _ 0 [] _ (Nat.zero_add _) ⟨.nil, rfl⟩
  · rintro i ys news v I oI C oC D m₂ h8 tk8 E' hi ⟨hys, rfl⟩ ⟨tv, rfl⟩ hns hx F11 N11 o3' ne
    rw [show (1 : Int) + (i : Int) = ((i + 1 : Nat) : Int) from by omega] at hx
    clear F4 N4
    try clear F1 N1 F N
    (try dsimp only); (try k_fold)
    ((repeat' ((fail_if_success (with_reducible show wpAny _ _ (binaryOp Operator.Add (Value.str _ _) (Value.str _ _)) _ _ _)); (first | (k_unfold; (try dsimp only)) | ((with_reducible first | show wpAny _ _ (exec _ _) _ _ _ | show wpAny _ _ (execs _ _) _ _ _); k_fold) | (k_end; wrow_close) | walk1 | (dsimp only; walk1) | (leave1; (try dsimp only))))) <;> (repeat (k_unfold; (try dsimp only))))
    rw [lit_s, Tx_mul1]
    ((repeat' ((fail_if_success (with_reducible show LCg.CompEnd _ _ _ _ _ _ _ _ _ _ _ _ _ _)); (first | ((with_reducible show wpAny _ _ (binaryOp Operator.Add (Value.str _ _) (Value.str _ _)) _ _ _); refine add_Tx lit_t (by rw [List.length_replicate]; simp only [List.length_cons, List.length_nil]; omega) ?_; intro _ _) | (k_unfold; (try dsimp only)) | ((with_reducible first | show wpAny _ _ (exec _ _) _ _ _ | show wpAny _ _ (execs _ _) _ _ _); k_fold) | (k_end; wrow_close) | walk1 | (dsimp only; walk1) | (leave1; (try dsimp only))))) <;> (repeat (k_unfold; (try dsimp only))))
    rename Fr _ _ _ _ => F13
    rename News _ _ _ _ => N13
    refine LCg.CompEnd.intro F13 N13 _ (fun q hq => hq) o3' trivial ⟨?_, rfl⟩
    rw [List.range_succ, List.map_append]
    exact kct_snoc hys
  · rintro ys news ⟨hys, rfl⟩ Dc h8 tk8 F11 N11 oD
    subst hNW
    clear F4 N4
    try clear F1 N1 F N
    simp only [List.cons_append, List.nil_append] at N11
    (try dsimp only); (try k_fold)
    ((repeat' ((fail_if_success (with_reducible show wpAny _ _ (call (Value.builtin "str.join") _) _ _ _)); (first | (k_unfold; (try dsimp only)) | ((with_reducible first | show wpAny _ _ (exec _ _) _ _ _ | show wpAny _ _ (execs _ _) _ _ _); k_fold) | (k_end; wrow_close) | walk1 | (dsimp only; walk1) | (leave1; (try dsimp only))))) <;> (repeat (k_unfold; (try dsimp only))))
    rename Fr _ _ _ _ => F12
    rename News _ _ _ _ => N12
    have hlt := stairT_len (n := n) (by omega)
    refine join_T (xs := stairT n) (News.isList N12 (.head _)) hys (by unfold stairT; rw [List.map_map]; rfl) (by unfold stairT at hlt ⊢; rw [List.length_map, List.length_range]; omega) ?_
    intro t12 tk12
    (try dsimp only)
    ((repeat' ((fail_if_success (with_reducible show wpAny _ _ (call (Value.ref 167) _) _ _ _)); (first | (k_unfold; (try dsimp only)) | ((with_reducible first | show wpAny _ _ (exec _ _) _ _ _ | show wpAny _ _ (execs _ _) _ _ _); k_fold) | (k_end; wrow_close) | walk1 | (dsimp only; walk1) | (leave1; (try dsimp only))))) <;> (repeat (k_unfold; (try dsimp only))))
    rename Fr _ _ _ _ => F13
    rename News _ _ _ _ => N13
    refine use_g (ws_new w (Tx (stairT n).flatten) _ (by rw [Tx_len]; omega) (by rw [Tx_cps]; exact stair_ws n)) (oth := (D2, listOf i2.toArray kk2) :: [(173, tabObj tab), (Dt, listOf #[Value.int t0 u0, Value.int t1 u1, Value.int t2 u2] kt), (L + 1 + 1 + 1 + 1 + 1, o5), (L + 1 + 1 + 1 + 1, o4), (L + 1 + 1 + 1, o3), (L + 1 + 1, o2), (L + 1, o1)] ++ (bT ++ (T3 ++ T4))) B F13 X N13 T rfl rfl (fun p hp => nomatch hp) (fun p hp => .tail _ hp) (fun p hp q hq => nomatch hq) (by omega) (by omega) ?_
    rintro v14 bS h14 tk14 F14 N14 ne14 - ⟨xS, rfl, WS⟩
    rw [Tx_cps] at WS
    clear F13 N13
    try clear F12 N12
    replace N14 : News h₀ L h14 ((D2, listOf i2.toArray kk2) :: [(173, tabObj tab), (Dt, listOf #[Value.int t0 u0, Value.int t1 u1, Value.int t2 u2] kt), (L + 1 + 1 + 1 + 1 + 1, o5), (L + 1 + 1 + 1 + 1, o4), (L + 1 + 1 + 1, o3), (L + 1 + 1, o2), (L + 1, o1)] ++ (bT ++ (bS ++ (T3 ++ T4)))) := fun q hq => by
      rcases List.mem_append.mp hq with hq | hq
      · exact N14 q (List.mem_append_right _ (List.mem_append_left _ hq))
      · rcases List.mem_append.mp hq with hq | hq
        · exact N14 q (List.mem_append_right _ (List.mem_append_right _ (List.mem_append_left _ hq)))
        · rcases List.mem_append.mp hq with hq | hq
          · exact N14 q (List.mem_append_left _ hq)
          · exact N14 q (List.mem_append_right _ (List.mem_append_right _ (List.mem_append_right _ hq)))
    (try dsimp only)
    ((repeat' ((fail_if_success (with_reducible show wpAny _ _ (execs (Stmt.If _ _ _ _ :: _) _) _ _ _)); (first | (k_unfold; (try dsimp only)) | ((with_reducible first | show wpAny _ _ (exec _ _) _ _ _ | show wpAny _ _ (execs _ _) _ _ _); k_fold) | (k_end; wrow_close) | walk1 | (dsimp only; walk1) | (leave1; (try dsimp only))))) <;> (repeat (k_unfold; (try dsimp only))))
    (try dsimp only)
    rename Fr _ _ _ _ => F15
    rename News _ _ _ _ => N15
    have F16 : Fr h₀ L _ (wl (some (.ref sc)) (some (.int ((n / 2 : Nat) : Int) th)) text words once (some (.ref D2)) (some (.int (chrOf n st) tc)) (some (.ref xT)) (some (.ref xS)) none none none) := Fr.congr F15 (by (intro y; unfold wl; (rcases Classical.em (y = "script") with rfl | h0); exact rfl; (rcases Classical.em (y = "half") with rfl | h1); exact rfl; (rcases Classical.em (y = "text") with rfl | h2); exact rfl; (rcases Classical.em (y = "words") with rfl | h3); exact rfl; (rcases Classical.em (y = "once") with rfl | h4); exact rfl; (rcases Classical.em (y = "row") with rfl | h5); exact rfl; (rcases Classical.em (y = "character") with rfl | h6); exact rfl; (rcases Classical.em (y = "turned") with rfl | h7); exact rfl; (rcases Classical.em (y = "stairs") with rfl | h8); exact rfl; (rcases Classical.em (y = "crossed") with rfl | h9); exact rfl; (rcases Classical.em (y = "lead") with rfl | h10); exact rfl; (rcases Classical.em (y = "passed") with rfl | h11); exact rfl; (try simp only [if_neg h0, if_neg h1, if_neg h2, if_neg h3, if_neg h4, if_neg h5, if_neg h6, if_neg h7, if_neg h8, if_neg h9, if_neg h10, if_neg h11]); (first | done | exact rfl | (show List.lookup y (_ :: _) = none; simp only [List.lookup, beq_eq_false_iff_ne.mpr h0, beq_eq_false_iff_ne.mpr h1, beq_eq_false_iff_ne.mpr h2, beq_eq_false_iff_ne.mpr h3, beq_eq_false_iff_ne.mpr h4, beq_eq_false_iff_ne.mpr h5, beq_eq_false_iff_ne.mpr h6, beq_eq_false_iff_ne.mpr h7, beq_eq_false_iff_ne.mpr h8, beq_eq_false_iff_ne.mpr h9, beq_eq_false_iff_ne.mpr h10, beq_eq_false_iff_ne.mpr h11]) | (simp only [List.lookup, beq_eq_false_iff_ne.mpr h0, beq_eq_false_iff_ne.mpr h1, beq_eq_false_iff_ne.mpr h2, beq_eq_false_iff_ne.mpr h3, beq_eq_false_iff_ne.mpr h4, beq_eq_false_iff_ne.mpr h5, beq_eq_false_iff_ne.mpr h6, beq_eq_false_iff_ne.mpr h7, beq_eq_false_iff_ne.mpr h8, beq_eq_false_iff_ne.mpr h9, beq_eq_false_iff_ne.mpr h10, beq_eq_false_iff_ne.mpr h11]; done))))
    exact stD4 (s := { s with heap := _, toks := _ }) (by exact rfl) B X T hn hsn hpr hb1 hb2 S3 S4 k2 k4 k5 hst2 dDt hL hd' hu hQ WT offW offT dD2 WS ne14 F16 N15
theorem stD2 (hdef : lawRest ((hd.heap_1 w.params).lookup 216) 12 = some (rest, scope)) (B : Below A₀ base outer h₀) (X : (hd.heap_1 w.params).In h₀) (T : Top tp tl mean mg mb h₀)
    {sc Dt : Addr} {kt n st : Nat} {t0 t1 t2 : Int} {u0 u1 u2 un' th tp' : Tok} {text words once : Option Value} (hn : 3 ≤ n ∧ n ≤ 15 ∧ n % 2 = 1) (hsn : st < n) (hpr : (t1 * t2) % (n : Int) = (st : Int)) (hb1 : -2000 ≤ t1 ∧ t1 ≤ 2000) (hb2 : -2000 ≤ t2 ∧ t2 ≤ 2000)
    {T3 T4 : List (Addr × Obj)} {tab : Array Value} (S3 : TabSt 37 35 4 "_int2digits.<locals>.inner" T3) (S4 : TabSt 44 50 4 "_digits2int.<locals>.inner" T4)
    {o1 o2 o3 o4 o5 : Obj} {v5 : Option Value} (k2 : cellIs o2 (some (.int (n : Int) un'))) (k4 : cellIs o4 (some (.int (t1 * t2) tp'))) (k5 : cellIs o5 v5)
    {D2 : Addr} {i2 : List Value} {kk2 : Nat} (hst2 : StrsAre i2 ((List.range n).map fun k => blank (k * st % n)))
    (dDt : ∀ q ∈ [(L + 1 + 1 + 1 + 1 + 1, o5), (L + 1 + 1 + 1 + 1, o4), (L + 1 + 1 + 1, o3), (L + 1 + 1, o2), (L + 1, o1)], Dt ≠ q.1)
    (hL : 173 < L) (hd' : dp + 200 < recursionLimit) (hu : un + 2000 < cLine) (hQ : LawEnd h₀ L Q s)
    {tc : Tok}
    (F : Fr h₀ L s.heap (wl (some (.ref sc)) (some (.int ((n / 2 : Nat) : Int) th)) text words once (some (.ref D2)) (some (.int (chrOf n st) tc)) none none none none none))
    (N : News h₀ L s.heap ((D2, listOf i2.toArray kk2) :: [(173, tabObj tab), (Dt, listOf #[Value.int t0 u0, Value.int t1 u1, Value.int t2 u2] kt), (L + 1 + 1 + 1 + 1 + 1, o5), (L + 1 + 1 + 1 + 1, o4), (L + 1 + 1 + 1, o3), (L + 1 + 1, o2), (L + 1, o1)] ++ (T3 ++ T4)))
    (offT : ∀ q ∈ (D2, listOf i2.toArray kk2) :: [(173, tabObj tab), (Dt, listOf #[Value.int t0 u0, Value.int t1 u1, Value.int t2 u2] kt), (L + 1 + 1 + 1 + 1 + 1, o5), (L + 1 + 1 + 1 + 1, o4), (L + 1 + 1 + 1, o3), (L + 1 + 1, o2), (L + 1, o1)], ∀ r ∈ T3 ++ T4, q.1 ≠ r.1) (dD2 : ∀ q ∈ [(173, tabObj tab), (Dt, listOf #[Value.int t0 u0, Value.int t1 u1, Value.int t2 u2] kt), (L + 1 + 1 + 1 + 1 + 1, o5), (L + 1 + 1 + 1 + 1, o4), (L + 1 + 1 + 1, o3), (L + 1 + 1, o2), (L + 1, o1)], q.1 ≠ D2) :
    wpAny (model Challenge.rw_pe0259_01.row.prog w) (Ar dp un gd (envOfC "law" scope L fa cd :: outer)) (execs rest (envOfC "law" scope L fa cd)) Q E s := by
  revert hdef
  k_fill
  intro hdef
  refine' law_out ?hl hdef ?_
  (case hl => k_is)
  clear hdef
  intro hdef
  cases hdef
  have codeHd := codeHd_of_K (c := 41) (P := 37) X (by kernel_rfl)
  (try dsimp only [List.drop]); (try k_fold)
  unfold wl at F
  simp only [List.cons_append, List.nil_append] at N
  ((repeat' ((fail_if_success (with_reducible show wpAny _ _ (eval (Expr.ListComp _ _ _ _) _) _ _ _)); (first | (k_unfold; (try dsimp only)) | ((with_reducible first | show wpAny _ _ (exec _ _) _ _ _ | show wpAny _ _ (execs _ _) _ _ _); k_fold) | (k_end; wrow_close) | walk1 | (dsimp only; walk1) | (leave1; (try dsimp only))))) <;> (repeat (k_unfold; (try dsimp only))))
  rename Fr _ _ _ _ => F1
  rename News _ _ _ _ => N1
  refine LCg.ListComp_U (F₀ := F1) (by with_unfolding_all rfl) (by decide) (by rfl) (by decide) (by rfl) ?_
  ((repeat' ((fail_if_success (with_reducible show wpAny _ _ (subscriptTail _ _ (Value.ref _) (Value.ref _)) _ _ _)); (first | (k_unfold; (try dsimp only)) | ((with_reducible first | show wpAny _ _ (exec _ _) _ _ _ | show wpAny _ _ (execs _ _) _ _ _); k_fold) | (k_end; wrow_close) | walk1 | (dsimp only; walk1) | (leave1; (try dsimp only))))) <;> (repeat (k_unfold; (try dsimp only))))
  rename Fr _ _ _ _ => F2
  rename News _ _ _ _ => N2
  have hil : i2.length = n := by rw [hst2.length]; simp
  refine' kms_slice_lit (zs := (i2.drop 1).take (n / 2)) F2 N2 ?l ?p ?q ?e ?_ ?s ?t ?z
  (case l => kmk_list); (case p => kmk_part); (case q => kmk_part); (case s => with_unfolding_all rfl); (case t => kmk_pure); (case z => (rw [List.size_toArray, sizeLine_eq]; omega))
  (case e => exact pick_row hil (by omega))
  intro Ds hs Fs Ns ls
  refine LCg.CompSrc.ledger (k := 0) (its := ((i2.drop 1).take (n / 2)).toArray) rfl Fs Ns (.head _) (by rw [List.size_toArray, sizeLine_eq]; simp; omega) (fun g' => ?_)
  have hzs : StrsAre ((i2.drop 1).take (n / 2)) ((List.range (n / 2)).map fun j => blank ((j + 1) * st % n)) := by
    rw [← row_part (fun k => blank (k * st % n)) (by omega : n / 2 < n)]
    exact strs_take (strs_drop hst2 1) _
  have hzl : ((i2.drop 1).take (n / 2)).toArray.size = n / 2 := by rw [List.size_toArray, hzs.length]; simp
  obtain ⟨NW, hNW⟩ : ∃ NW, NW = (Ds, listOf ((i2.drop 1).take (n / 2)).toArray 0) :: (D2, listOf i2.toArray kk2) :: [(173, tabObj tab), (Dt, listOf #[Value.int t0 u0, Value.int t1 u1, Value.int t2 u2] kt), (L + 1 + 1 + 1 + 1 + 1, o5), (L + 1 + 1 + 1 + 1, o4), (L + 1 + 1 + 1, o3), (L + 1 + 1, o2), (L + 1, o1)] ++ (T3 ++ T4) := ⟨_, rfl⟩
  refine rest_of ((i2.drop 1).take (n / 2)).toArray.size (fun i ys news => StrsAre ys ((List.range i).map fun j => Tx (turnL n ((j + 1) * st % n) ++ [9])) ∧ news = NW) ?_ ?_ _ 0 [] _ (Nat.zero_add _) ⟨.nil, hNW.symm⟩
  · rintro i ys news v I oI C oC D m₂ h8 tk8 E' hi ⟨hys, rfl⟩ hv hns hx F11 N11 o3' ne
    obtain ⟨tx, x, hxx, rfl⟩ := strs_get hzs (by simpa using hv)
    rw [hzl] at hi
    have hxq : x = blank ((i + 1) * st % n) := by
      rw [List.getElem?_map, List.getElem?_range hi] at hxx
      exact (Option.some.inj hxx).symm
    have hq : (i + 1) * st % n < n := Nat.mod_lt _ (by omega)
    have hxl : x.length = (i + 1) * st % n := by rw [hxq, Tx_len, List.length_replicate]
    subst hNW
    clear Fs Ns F2 N2
    try clear F1 N1 F N
    (try dsimp only); (try k_fold)
    ((repeat' ((fail_if_success (with_reducible show wpAny _ _ (call (Value.ref 211) _) _ _ _)); (first | (k_unfold; (try dsimp only)) | ((with_reducible first | show wpAny _ _ (exec _ _) _ _ _ | show wpAny _ _ (execs _ _) _ _ _); k_fold) | (k_end; wrow_close) | walk1 | (dsimp only; walk1) | (leave1; (try dsimp only))))) <;> (repeat (k_unfold; (try dsimp only))))
    rename Fr _ _ _ _ => F12
    rename News _ _ _ _ => N12
    refine use_g (turned_c w x n _ _ (by omega) (by omega)) (oth := _) B F12 X N12 T rfl rfl (fun p hp => nomatch hp) (fun p hp => hp) (fun p hp q hq => nomatch hq) (by omega) (by omega) ?_
    rintro v9 blk9 h9 tk9 F13 N13 - - ⟨⟨t9, rfl⟩, rfl⟩
    rw [hxl, hxq, turn_eq]
    clear F12 N12
    (try dsimp only)
    ((repeat' ((fail_if_success (with_reducible show LCg.CompEnd _ _ _ _ _ _ _ _ _ _ _ _ _ _)); (first | ((with_reducible show wpAny _ _ (binaryOp Operator.Add (Value.str _ _) (Value.str _ _)) _ _ _); refine add_Tx lit_t (by have := turnL_len hq; simp only [List.length_cons, List.length_nil]; omega) ?_; intro _ _) | (k_unfold; (try dsimp only)) | ((with_reducible first | show wpAny _ _ (exec _ _) _ _ _ | show wpAny _ _ (execs _ _) _ _ _); k_fold) | (k_end; wrow_close) | walk1 | (dsimp only; walk1) | (leave1; (try dsimp only))))) <;> (repeat (k_unfold; (try dsimp only))))
    rename Fr _ _ _ _ => F14
    rename News _ _ _ _ => N14
    refine LCg.CompEnd.intro F14 N14 _ (fun q hq => hq) o3' (.inr ⟨_, .head _, rfl, _, rfl⟩) ⟨?_, rfl⟩
    rw [List.range_succ, List.map_append]
    exact kct_snoc hys
  · rintro ys news ⟨hys, rfl⟩ Dc h8 tk8 F11 N11 oD
    subst hNW
    rw [hzl] at hys
    clear Fs Ns F2 N2
    try clear F1 N1 F N
    simp only [List.cons_append, List.nil_append] at N11
    (try dsimp only); (try k_fold)
    ((repeat' ((fail_if_success (with_reducible show wpAny _ _ (call (Value.builtin "str.join") _) _ _ _)); (first | (k_unfold; (try dsimp only)) | ((with_reducible first | show wpAny _ _ (exec _ _) _ _ _ | show wpAny _ _ (execs _ _) _ _ _); k_fold) | (k_end; wrow_close) | walk1 | (dsimp only; walk1) | (leave1; (try dsimp only))))) <;> (repeat (k_unfold; (try dsimp only))))
    rename Fr _ _ _ _ => F12
    rename News _ _ _ _ => N12
    have hlt := turnT_len (n := n) (st := st) (by omega)
    refine join_T (xs := turnT n st) (News.isList N12 (.head _)) hys (by unfold turnT; rw [List.map_map]; rfl) (by unfold turnT at hlt ⊢; rw [List.length_map, List.length_range]; omega) ?_
    intro t12 tk12
    (try dsimp only)
    ((repeat' ((fail_if_success (with_reducible show wpAny _ _ (call (Value.ref 167) _) _ _ _)); (first | (k_unfold; (try dsimp only)) | ((with_reducible first | show wpAny _ _ (exec _ _) _ _ _ | show wpAny _ _ (execs _ _) _ _ _); k_fold) | (k_end; wrow_close) | walk1 | (dsimp only; walk1) | (leave1; (try dsimp only))))) <;> (repeat (k_unfold; (try dsimp only))))
    rename Fr _ _ _ _ => F13
    rename News _ _ _ _ => N13
    refine use_g (ws_new w (Tx (turnT n st).flatten) _ (by rw [Tx_len]; omega) (by rw [Tx_cps]; exact turn_ws n st)) (oth := (D2, listOf i2.toArray kk2) :: [(173, tabObj tab), (Dt, listOf #[Value.int t0 u0, Value.int t1 u1, Value.int t2 u2] kt), (L + 1 + 1 + 1 + 1 + 1, o5), (L + 1 + 1 + 1 + 1, o4), (L + 1 + 1 + 1, o3), (L + 1 + 1, o2), (L + 1, o1)] ++ (T3 ++ T4)) B F13 X N13 T rfl rfl (fun p hp => nomatch hp) (fun p hp => .tail _ (.tail _ hp)) (fun p hp q hq => nomatch hq) (by omega) (by omega) ?_
    rintro v14 bT h14 tk14 F14 N14 ne14 - ⟨xT, rfl, WT⟩
    rw [Tx_cps] at WT
    clear F13 N13
    try clear F12 N12
    replace N14 : News h₀ L h14 ((D2, listOf i2.toArray kk2) :: [(173, tabObj tab), (Dt, listOf #[Value.int t0 u0, Value.int t1 u1, Value.int t2 u2] kt), (L + 1 + 1 + 1 + 1 + 1, o5), (L + 1 + 1 + 1 + 1, o4), (L + 1 + 1 + 1, o3), (L + 1 + 1, o2), (L + 1, o1)] ++ (bT ++ (T3 ++ T4))) := fun q hq => by
      rcases List.mem_append.mp hq with hq | hq
      · exact N14 q (List.mem_append_right _ (List.mem_append_left _ hq))
      · rcases List.mem_append.mp hq with hq | hq
        · exact N14 q (List.mem_append_left _ hq)
        · exact N14 q (List.mem_append_right _ (List.mem_append_right _ hq))
    (try dsimp only)
    ((repeat' ((fail_if_success (with_reducible show wpAny _ _ (execs (Stmt.Assign [Expr.Name (Str.ofString "stairs") _] _ _ :: _) _) _ _ _)); (first | (k_unfold; (try dsimp only)) | ((with_reducible first | show wpAny _ _ (exec _ _) _ _ _ | show wpAny _ _ (execs _ _) _ _ _); k_fold) | (k_end; wrow_close) | walk1 | (dsimp only; walk1) | (leave1; (try dsimp only))))) <;> (repeat (k_unfold; (try dsimp only))))
    (try dsimp only)
    rename Fr _ _ _ _ => F15
    rename News _ _ _ _ => N15
    have F16 : Fr h₀ L _ (wl (some (.ref sc)) (some (.int ((n / 2 : Nat) : Int) th)) text words once (some (.ref D2)) (some (.int (chrOf n st) tc)) (some (.ref xT)) none none none none) := Fr.congr F15 (by (intro y; unfold wl; (rcases Classical.em (y = "script") with rfl | h0); exact rfl; (rcases Classical.em (y = "half") with rfl | h1); exact rfl; (rcases Classical.em (y = "text") with rfl | h2); exact rfl; (rcases Classical.em (y = "words") with rfl | h3); exact rfl; (rcases Classical.em (y = "once") with rfl | h4); exact rfl; (rcases Classical.em (y = "row") with rfl | h5); exact rfl; (rcases Classical.em (y = "character") with rfl | h6); exact rfl; (rcases Classical.em (y = "turned") with rfl | h7); exact rfl; (rcases Classical.em (y = "stairs") with rfl | h8); exact rfl; (rcases Classical.em (y = "crossed") with rfl | h9); exact rfl; (rcases Classical.em (y = "lead") with rfl | h10); exact rfl; (rcases Classical.em (y = "passed") with rfl | h11); exact rfl; (try simp only [if_neg h0, if_neg h1, if_neg h2, if_neg h3, if_neg h4, if_neg h5, if_neg h6, if_neg h7, if_neg h8, if_neg h9, if_neg h10, if_neg h11]); (first | done | exact rfl | (show List.lookup y (_ :: _) = none; simp only [List.lookup, beq_eq_false_iff_ne.mpr h0, beq_eq_false_iff_ne.mpr h1, beq_eq_false_iff_ne.mpr h2, beq_eq_false_iff_ne.mpr h3, beq_eq_false_iff_ne.mpr h4, beq_eq_false_iff_ne.mpr h5, beq_eq_false_iff_ne.mpr h6, beq_eq_false_iff_ne.mpr h7, beq_eq_false_iff_ne.mpr h8, beq_eq_false_iff_ne.mpr h9, beq_eq_false_iff_ne.mpr h10, beq_eq_false_iff_ne.mpr h11]) | (simp only [List.lookup, beq_eq_false_iff_ne.mpr h0, beq_eq_false_iff_ne.mpr h1, beq_eq_false_iff_ne.mpr h2, beq_eq_false_iff_ne.mpr h3, beq_eq_false_iff_ne.mpr h4, beq_eq_false_iff_ne.mpr h5, beq_eq_false_iff_ne.mpr h6, beq_eq_false_iff_ne.mpr h7, beq_eq_false_iff_ne.mpr h8, beq_eq_false_iff_ne.mpr h9, beq_eq_false_iff_ne.mpr h10, beq_eq_false_iff_ne.mpr h11]; done))))
    exact stD3 (s := { s with heap := _, toks := _ }) (by exact rfl) B X T hn hsn hpr hb1 hb2 S3 S4 k2 k4 k5 hst2 dDt hL hd' hu hQ WT ne14 offT dD2 F16 N15
theorem stD1 (hdef : lawRest ((hd.heap_1 w.params).lookup 216) 11 = some (rest, scope)) (B : Below A₀ base outer h₀) (X : (hd.heap_1 w.params).In h₀) (T : Top tp tl mean mg mb h₀)
    {sc Dt : Addr} {kt n st : Nat} {t0 t1 t2 : Int} {u0 u1 u2 un' th tp' : Tok} {text words once : Option Value} (hn : 3 ≤ n ∧ n ≤ 15 ∧ n % 2 = 1) (hsn : st < n) (hpr : (t1 * t2) % (n : Int) = (st : Int)) (hb1 : -2000 ≤ t1 ∧ t1 ≤ 2000) (hb2 : -2000 ≤ t2 ∧ t2 ≤ 2000)
    {T3 T4 : List (Addr × Obj)} {tab : Array Value} (S3 : TabSt 37 35 4 "_int2digits.<locals>.inner" T3) (S4 : TabSt 44 50 4 "_digits2int.<locals>.inner" T4)
    {o1 o2 o3 o4 o5 : Obj} {v5 : Option Value} (k2 : cellIs o2 (some (.int (n : Int) un'))) (k4 : cellIs o4 (some (.int (t1 * t2) tp'))) (k5 : cellIs o5 v5)
    {D2 : Addr} {i2 : List Value} {kk2 : Nat} (hst2 : StrsAre i2 ((List.range n).map fun k => blank (k * st % n)))
    (dDt : ∀ q ∈ [(L + 1 + 1 + 1 + 1 + 1, o5), (L + 1 + 1 + 1 + 1, o4), (L + 1 + 1 + 1, o3), (L + 1 + 1, o2), (L + 1, o1)], Dt ≠ q.1)
    (hL : 173 < L) (hd' : dp + 200 < recursionLimit) (hu : un + 2000 < cLine) (hQ : LawEnd h₀ L Q s)
    (F : Fr h₀ L s.heap (wl (some (.ref sc)) (some (.int ((n / 2 : Nat) : Int) th)) text words once (some (.ref D2)) none none none none none none))
    (N : News h₀ L s.heap ((D2, listOf i2.toArray kk2) :: [(173, tabObj tab), (Dt, listOf #[Value.int t0 u0, Value.int t1 u1, Value.int t2 u2] kt), (L + 1 + 1 + 1 + 1 + 1, o5), (L + 1 + 1 + 1 + 1, o4), (L + 1 + 1 + 1, o3), (L + 1 + 1, o2), (L + 1, o1)] ++ (T3 ++ T4)))
    (offT : ∀ q ∈ (D2, listOf i2.toArray kk2) :: [(173, tabObj tab), (Dt, listOf #[Value.int t0 u0, Value.int t1 u1, Value.int t2 u2] kt), (L + 1 + 1 + 1 + 1 + 1, o5), (L + 1 + 1 + 1 + 1, o4), (L + 1 + 1 + 1, o3), (L + 1 + 1, o2), (L + 1, o1)], ∀ r ∈ T3 ++ T4, q.1 ≠ r.1) (dD2 : ∀ q ∈ [(173, tabObj tab), (Dt, listOf #[Value.int t0 u0, Value.int t1 u1, Value.int t2 u2] kt), (L + 1 + 1 + 1 + 1 + 1, o5), (L + 1 + 1 + 1 + 1, o4), (L + 1 + 1 + 1, o3), (L + 1 + 1, o2), (L + 1, o1)], q.1 ≠ D2) :
    wpAny (model Challenge.rw_pe0259_01.row.prog w) (Ar dp un gd (envOfC "law" scope L fa cd :: outer)) (execs rest (envOfC "law" scope L fa cd)) Q E s := by
  revert hdef
  k_fill
  intro hdef
  refine' law_out ?hl hdef ?_
  (case hl => k_is)
  clear hdef
  intro hdef
  cases hdef
  have codeHd := codeHd_of_K (c := 41) (P := 37) X (by kernel_rfl)
  (try dsimp only [List.drop]); (try k_fold)
  unfold wl at F
  simp only [List.cons_append, List.nil_append] at N
  ((repeat' ((fail_if_success (with_reducible show wpAny _ _ (call (Value.ref 63) _) _ _ _)); (first | (k_unfold; (try dsimp only)) | ((with_reducible first | show wpAny _ _ (exec _ _) _ _ _ | show wpAny _ _ (execs _ _) _ _ _); k_fold) | (k_end; wrow_close) | walk1 | (dsimp only; walk1) | (leave1; (try dsimp only))))) <;> (repeat (k_unfold; (try dsimp only))))
  rename Fr _ _ _ _ => F1
  rename News _ _ _ _ => N1
  refine dm_use (aa := (D2, listOf i2.toArray kk2) :: [(173, tabObj tab), (Dt, listOf #[Value.int t0 u0, Value.int t1 u1, Value.int t2 u2] kt), (L + 1 + 1 + 1 + 1 + 1, o5), (L + 1 + 1 + 1 + 1, o4), (L + 1 + 1 + 1, o3), (L + 1 + 1, o2), (L + 1, o1)]) (T3 := T3) (T4 := T4) S3 S4 offT (by omega) ?_ (by omega) B F1 X N1 T rfl rfl (by omega) (by omega) ?_
  · exact prod_small hb1 hb2
  intro D9 T3' T4' tq9 tr9 h9 tk9 S3' S4' off9 offD9 offD9' F2 N2
  rw [hpr] at N2
  clear F1 N1
  simp only [List.cons_append, List.nil_append] at N2
  (try dsimp only)
  ((repeat' ((fail_if_success (with_reducible show wpAny _ _ (call (Value.ref 204) _) _ _ _)); (first | (k_unfold; (try dsimp only)) | ((with_reducible first | show wpAny _ _ (exec _ _) _ _ _ | show wpAny _ _ (execs _ _) _ _ _); k_fold) | (k_end; wrow_close) | walk1 | (dsimp only; walk1) | (leave1; (try dsimp only))))) <;> (repeat (k_unfold; (try dsimp only))))
  rename Fr _ _ _ _ => F3
  rename News _ _ _ _ => N3
  refine chr_use (aa := (D9, _) :: (D2, listOf i2.toArray kk2) :: [(173, tabObj tab), (Dt, listOf #[Value.int t0 u0, Value.int t1 u1, Value.int t2 u2] kt), (L + 1 + 1 + 1 + 1 + 1, o5), (L + 1 + 1 + 1 + 1, o4), (L + 1 + 1 + 1, o3), (L + 1 + 1, o2), (L + 1, o1)]) (T3 := T3') (T4 := T4') S3' S4' (List.forall_mem_cons.mpr ⟨offD9', off9⟩) (by omega) (by omega) (by omega) (euler st (by omega)) B F3 X N3 T rfl rfl (by omega) (by omega) ?_
  intro t5 T3'' T4'' h5 tk5 S5 S6 off5 F4 N4
  clear F3 N3
  try clear F2 N2
  (try dsimp only)
  ((repeat' ((fail_if_success (with_reducible show wpAny _ _ (execs (Stmt.Assign [Expr.Name (Str.ofString "turned") _] _ _ :: _) _) _ _ _)); (first | (k_unfold; (try dsimp only)) | ((with_reducible first | show wpAny _ _ (exec _ _) _ _ _ | show wpAny _ _ (execs _ _) _ _ _); k_fold) | (k_end; wrow_close) | walk1 | (dsimp only; walk1) | (leave1; (try dsimp only))))) <;> (repeat (k_unfold; (try dsimp only))))
  (try dsimp only)
  rename Fr _ _ _ _ => F6
  rename News _ _ _ _ => N6
  have F7 : Fr h₀ L _ (wl (some (.ref sc)) (some (.int ((n / 2 : Nat) : Int) th)) text words once (some (.ref D2)) (some (.int (chrOf n st) t5)) none none none none none) := Fr.congr F6 (by (intro y; unfold wl; (rcases Classical.em (y = "script") with rfl | h0); exact rfl; (rcases Classical.em (y = "half") with rfl | h1); exact rfl; (rcases Classical.em (y = "text") with rfl | h2); exact rfl; (rcases Classical.em (y = "words") with rfl | h3); exact rfl; (rcases Classical.em (y = "once") with rfl | h4); exact rfl; (rcases Classical.em (y = "row") with rfl | h5); exact rfl; (rcases Classical.em (y = "character") with rfl | h6); exact rfl; (rcases Classical.em (y = "turned") with rfl | h7); exact rfl; (rcases Classical.em (y = "stairs") with rfl | h8); exact rfl; (rcases Classical.em (y = "crossed") with rfl | h9); exact rfl; (rcases Classical.em (y = "lead") with rfl | h10); exact rfl; (rcases Classical.em (y = "passed") with rfl | h11); exact rfl; (try simp only [if_neg h0, if_neg h1, if_neg h2, if_neg h3, if_neg h4, if_neg h5, if_neg h6, if_neg h7, if_neg h8, if_neg h9, if_neg h10, if_neg h11]); (first | done | exact rfl | (show List.lookup y (_ :: _) = none; simp only [List.lookup, beq_eq_false_iff_ne.mpr h0, beq_eq_false_iff_ne.mpr h1, beq_eq_false_iff_ne.mpr h2, beq_eq_false_iff_ne.mpr h3, beq_eq_false_iff_ne.mpr h4, beq_eq_false_iff_ne.mpr h5, beq_eq_false_iff_ne.mpr h6, beq_eq_false_iff_ne.mpr h7, beq_eq_false_iff_ne.mpr h8, beq_eq_false_iff_ne.mpr h9, beq_eq_false_iff_ne.mpr h10, beq_eq_false_iff_ne.mpr h11]) | (simp only [List.lookup, beq_eq_false_iff_ne.mpr h0, beq_eq_false_iff_ne.mpr h1, beq_eq_false_iff_ne.mpr h2, beq_eq_false_iff_ne.mpr h3, beq_eq_false_iff_ne.mpr h4, beq_eq_false_iff_ne.mpr h5, beq_eq_false_iff_ne.mpr h6, beq_eq_false_iff_ne.mpr h7, beq_eq_false_iff_ne.mpr h8, beq_eq_false_iff_ne.mpr h9, beq_eq_false_iff_ne.mpr h10, beq_eq_false_iff_ne.mpr h11]; done))))
  refine stD2 (s := { s with heap := _, toks := _ }) (by exact rfl) B X T hn hsn hpr hb1 hb2 S5 S6 k2 k4 k5 hst2 dDt hL hd' hu hQ F7 (fun q hq => N6 q (.tail _ hq)) (fun q hq r hr => off5 q (.tail _ hq) r hr) dD2
end

section
variable {w : World} {dp un : Nat} {gd : Option (List Code)} {outer : List Env} {A₀ : Around} {base h₀ : Heap} {L fa : Addr} {cd : Value} {tp : Program} {tl : List Str} {mean : ExcName → Option Value} {mg mb : Str → Option Value} {s : Shared} {Q : Flow → Shared → Prop} {E : Value → Shared → Prop} {rest : List Stmt} {scope : Scope}
theorem mod_q {prog : Program} {w : World} {A : Around} {E : Value → Shared → Prop} {s : Shared} {t u : Tok} {Q : Value → Shared → Prop} {k n : Nat} {pr : Int} (hn : 0 < n) (hn2 : n < 1000) (h : Q (.int ((rowQ n pr k : Nat) : Int) s.toks) { s with toks := s.toks + 1 }) :
    wpAny (model prog w) A (binaryOp .Mod (.int ((k : Int) * pr) t) (.int (n : Int) u)) Q E s := by
  refine mod_int' (by omega) ?_
  have e : Int.fmod ((k : Int) * pr) (n : Int) = ((rowQ n pr k : Nat) : Int) := by
    rw [Int.fmod_eq_emod_of_nonneg _ (by omega)]
    unfold rowQ
    have := Int.emod_nonneg ((k : Int) * pr) (b := (n : Int)) (by omega)
    omega
  rw [e]; exact h
theorem ok_row (n : Nat) (pr : Int) : ∀ x ∈ (List.range n).map fun k => blank (rowQ n pr k), PyData.strOk x = true := fun x hx => by
  obtain ⟨k, _, rfl⟩ := List.mem_map.mp hx
  exact ok_blank _
theorem row_step {n st : Nat} {pr : Int} (h : pr % (n : Int) = (st : Int)) : ((List.range n).map fun k => blank (rowQ n pr k)) = (List.range n).map fun k => blank (k * st % n) := by
  apply List.map_congr_left
  intro k _
  congr 1
  unfold rowQ
  rw [Int.mul_emod, h, ← Int.natCast_emod, ← Int.natCast_mul, ← Int.natCast_emod, Int.toNat_natCast, Nat.mod_mul_mod]
theorem stC2 (hdef : lawRest ((hd.heap_1 w.params).lookup 216) 10 = some (rest, scope)) (B : Below A₀ base outer h₀) (X : (hd.heap_1 w.params).In h₀) (T : Top tp tl mean mg mb h₀)
    {sc Dt : Addr} {kt n : Nat} {b t0 t1 t2 : Int} {u0 u1 u2 un' th tt : Tok} (hn : 3 ≤ n ∧ n ≤ 15 ∧ n % 2 = 1) (hb1 : -2000 ≤ t1 ∧ t1 ≤ 2000) (hb2 : -2000 ≤ t2 ∧ t2 ≤ 2000)
    {a : LexA} {adr : List Addr} {RO : Nat → List (Addr × Obj) → Prop} {blk T3 T4 : List (Addr × Obj)} {tab : Array Value} (Rd : Reader w a.rd (Tx (textL n b)) adr RO) (O : a.Ok adr)
    (S3 : TabSt 37 35 4 "_int2digits.<locals>.inner" T3) (S4 : TabSt 44 50 4 "_digits2int.<locals>.inner" T4)
    {o1 o2 o3 o4 o5 : Obj} (k1 : cellIs o1 (some (.ref Dt))) (k2 : cellIs o2 (some (.int (n : Int) un'))) (k3 : cellIs o3 (some (.ref a.x))) {v4 v5 : Option Value} (k4 : cellIs o4 v4) (k5 : cellIs o5 v5)
    {p : Nat} (M : MachSt w a RO (1 + nlTo (Tx (textL n b)) p) "\n\t\r " [] p blk) (hp : p ≤ (Tx (textL n b)).length) (hcd : ∃ pre, preL pre ∧ codes (Tx (textL n b)) p = pre ++ [101, 110, 100])
    {Dw D2 : Addr} {yw i2 : List Value} {kk2 : Nat} {once : Option Value} {tp' : Tok} (hv4 : v4 = some (.int (t1 * t2) tp')) (hyw : StrsAre yw ((List.range n).map blank)) (hst2 : StrsAre i2 ((List.range n).map fun k => blank (rowQ n (t1 * t2) k)))
    (F : Fr h₀ L s.heap (wl (some (.ref sc)) (some (.int ((n / 2 : Nat) : Int) th)) (some (.str (Tx (textL n b)) tt)) (some (.ref Dw)) once (some (.ref D2)) none none none none none none))
    (N : News h₀ L s.heap ((D2, listOf i2.toArray kk2) :: (Dw, LCg.lst yw) :: [(173, tabObj tab), (Dt, listOf #[Value.int t0 u0, Value.int t1 u1, Value.int t2 u2] kt), (L + 1 + 1 + 1 + 1 + 1, o5), (L + 1 + 1 + 1 + 1, o4), (L + 1 + 1 + 1, o3), (L + 1 + 1, o2), (L + 1, o1)] ++ (blk ++ (T3 ++ T4))))
    (offM : ∀ q ∈ (D2, listOf i2.toArray kk2) :: (Dw, LCg.lst yw) :: [(173, tabObj tab), (Dt, listOf #[Value.int t0 u0, Value.int t1 u1, Value.int t2 u2] kt), (L + 1 + 1 + 1 + 1 + 1, o5), (L + 1 + 1 + 1 + 1, o4), (L + 1 + 1 + 1, o3), (L + 1 + 1, o2), (L + 1, o1)], q.1 ∉ a.adrs ++ adr) (offT : ∀ q ∈ (D2, listOf i2.toArray kk2) :: (Dw, LCg.lst yw) :: [(173, tabObj tab), (Dt, listOf #[Value.int t0 u0, Value.int t1 u1, Value.int t2 u2] kt), (L + 1 + 1 + 1 + 1 + 1, o5), (L + 1 + 1 + 1 + 1, o4), (L + 1 + 1 + 1, o3), (L + 1 + 1, o2), (L + 1, o1)], ∀ r ∈ T3 ++ T4, q.1 ≠ r.1)
    (dDw : ∀ q ∈ [(173, tabObj tab), (Dt, listOf #[Value.int t0 u0, Value.int t1 u1, Value.int t2 u2] kt), (L + 1 + 1 + 1 + 1 + 1, o5), (L + 1 + 1 + 1 + 1, o4), (L + 1 + 1 + 1, o3), (L + 1 + 1, o2), (L + 1, o1)], q.1 ≠ Dw) (dD2 : ∀ q ∈ (Dw, LCg.lst yw) :: [(173, tabObj tab), (Dt, listOf #[Value.int t0 u0, Value.int t1 u1, Value.int t2 u2] kt), (L + 1 + 1 + 1 + 1 + 1, o5), (L + 1 + 1 + 1 + 1, o4), (L + 1 + 1 + 1, o3), (L + 1 + 1, o2), (L + 1, o1)], q.1 ≠ D2)
    (offTM : ∀ r ∈ T3 ++ T4, r.1 ∉ a.adrs ++ adr) (dDt : ∀ q ∈ [(L + 1 + 1 + 1 + 1 + 1, o5), (L + 1 + 1 + 1 + 1, o4), (L + 1 + 1 + 1, o3), (L + 1 + 1, o2), (L + 1, o1)], Dt ≠ q.1)
    (hL : 173 < L) (hd' : dp + 200 < recursionLimit) (hu : un + 2000 < cLine) (hQ : LawEnd h₀ L Q s) :
    wpAny (model Challenge.rw_pe0259_01.row.prog w) (Ar dp un gd (envOfC "law" scope L fa cd :: outer)) (execs rest (envOfC "law" scope L fa cd)) Q E s := by
  revert hdef
  k_fill
  intro hdef
  refine' law_out ?hl hdef ?_
  (case hl => k_is)
  clear hdef
  intro hdef
  cases hdef
  have codeHd := codeHd_of_K (c := 41) (P := 37) X (by kernel_rfl)
  (try dsimp only [List.drop]); (try k_fold)
  unfold wl at F
  obtain ⟨lt6, tw6, k6, l6, its6, hl6, hi6, rfl⟩ := id M
  have N0 := N
  simp only [lexObjs, List.cons_append, List.nil_append] at N
  obtain ⟨pre, hpre, hcd⟩ := hcd
  have hcnt : Txt.count (Tx (textL n b)) (Str.ofString "\n") = nlTo (Tx (textL n b)) p := by
    rw [nl_all hpre hcd]; exact count_one _ 10
  have htl : (Tx (textL n b)).length < 2000 := by
    have := textW_len (n := n) (b := b) (by omega)
    rw [Tx_len]; unfold textL; rw [List.length_append]; simp only [List.length_cons, List.length_nil]; omega
  have hlex : lex0 "\n\t\r " (codes (Tx (textL n b)) p) = (Tx [101, 110, 100], []) := by rw [hcd, lex_pre hpre, lex_end]
  ((repeat' ((fail_if_success (with_reducible show wpAny _ _ (call (Value.ref 91) _) _ _ _)); (first | ((with_reducible show wpAny _ _ (call (Value.builtin "str.count") _) _ _ _); refine PySem.SC.count ?_; rw [hcnt]) | (k_unfold; (try dsimp only)) | ((with_reducible first | show wpAny _ _ (exec _ _) _ _ _ | show wpAny _ _ (execs _ _) _ _ _); k_fold) | (k_end; wrow_close) | walk1 | (dsimp only; walk1) | (leave1; (try dsimp only))))) <;> (repeat (k_unfold; (try dsimp only))))
  · exact absurd rfl (by assumption : 1 + nlTo (Tx (textL n b)) p ≠ 1 + nlTo (Tx (textL n b)) p)
  dsimp only [List.nil_append, List.cons_append]
  rename Fr _ _ _ _ => F1
  rename News _ _ _ _ => N1
  refine mach_get0 (aa := ((D2, listOf i2.toArray kk2) :: (Dw, LCg.lst yw) :: [(173, tabObj tab), (Dt, listOf #[Value.int t0 u0, Value.int t1 u1, Value.int t2 u2] kt), (L + 1 + 1 + 1 + 1 + 1, o5), (L + 1 + 1 + 1 + 1, o4), (L + 1 + 1 + 1, o3), (L + 1 + 1, o2), (L + 1, o1)]) ++ (T3 ++ T4)) Rd O M ?_ hp (by omega) B F1 X (News.mid (a := (D2, listOf i2.toArray kk2) :: (Dw, LCg.lst yw) :: [(173, tabObj tab), (Dt, listOf #[Value.int t0 u0, Value.int t1 u1, Value.int t2 u2] kt), (L + 1 + 1 + 1 + 1 + 1, o5), (L + 1 + 1 + 1 + 1, o4), (L + 1 + 1 + 1, o3), (L + 1 + 1, o2), (L + 1, o1)]) (b := lexObjs w a (.int (1 + nlTo (Tx (textL n b)) p) lt6) (.str "\n\t\r " tw6) its6 k6 ++ l6) N1) T rfl rfl (by omega) (by omega) ?_
  · intro q hq
    rcases List.mem_append.mp hq with hq | hq
    · exact offM q hq
    · exact offTM q hq
  intro t9 p9 blk9 h9 tk9 hp9 hc9 F2 N2 M2
  rw [hlex] at hc9 ⊢
  replace N2 := News.unmid (a := (D2, listOf i2.toArray kk2) :: (Dw, LCg.lst yw) :: [(173, tabObj tab), (Dt, listOf #[Value.int t0 u0, Value.int t1 u1, Value.int t2 u2] kt), (L + 1 + 1 + 1 + 1 + 1, o5), (L + 1 + 1 + 1 + 1, o4), (L + 1 + 1 + 1, o3), (L + 1 + 1, o2), (L + 1, o1)]) N2
  clear F1 N1
  try clear N N0
  obtain ⟨lt7, tw7, k7, l7, its7, hl7, hi7, rfl⟩ := id M2
  simp only [lexObjs, List.cons_append, List.nil_append] at N2
  (try dsimp only)
  ((repeat' ((fail_if_success (with_reducible show wpAny _ _ (call (Value.ref 91) _) _ _ _)); (first | (k_unfold; (try dsimp only)) | ((with_reducible first | show wpAny _ _ (exec _ _) _ _ _ | show wpAny _ _ (execs _ _) _ _ _); k_fold) | (k_end; wrow_close) | walk1 | (dsimp only; walk1) | (leave1; (try dsimp only))))) <;> (repeat (k_unfold; (try dsimp only))))
  rename Fr _ _ _ _ => F3
  rename News _ _ _ _ => N3
  refine mach_get0 (aa := ((D2, listOf i2.toArray kk2) :: (Dw, LCg.lst yw) :: [(173, tabObj tab), (Dt, listOf #[Value.int t0 u0, Value.int t1 u1, Value.int t2 u2] kt), (L + 1 + 1 + 1 + 1 + 1, o5), (L + 1 + 1 + 1 + 1, o4), (L + 1 + 1 + 1, o3), (L + 1 + 1, o2), (L + 1, o1)]) ++ (T3 ++ T4)) Rd O M2 ?_ hp9 (by omega) B F3 X (News.mid (a := (D2, listOf i2.toArray kk2) :: (Dw, LCg.lst yw) :: [(173, tabObj tab), (Dt, listOf #[Value.int t0 u0, Value.int t1 u1, Value.int t2 u2] kt), (L + 1 + 1 + 1 + 1 + 1, o5), (L + 1 + 1 + 1 + 1, o4), (L + 1 + 1 + 1, o3), (L + 1 + 1, o2), (L + 1, o1)]) (b := lexObjs w a (.int (1 + nlTo (Tx (textL n b)) p9) lt7) (.str "\n\t\r " tw7) its7 k7 ++ l7) N3) T rfl rfl (by omega) (by omega) ?_
  · intro q hq
    rcases List.mem_append.mp hq with hq | hq
    · exact offM q hq
    · exact offTM q hq
  intro t10 p10 blk10 h10 tk10 hp10 hc10 F4 N4 M4
  rw [show lex0 "\n\t\r " (codes (Tx (textL n b)) p9) = (Tx [], []) from by rw [hc9]; exact lex_nil]
  clear F3 N3
  try clear F2 N2
  (try dsimp only [List.nil_append, List.cons_append])
  ((repeat' ((fail_if_success (with_reducible show wpAny _ _ (compareOp CmpOp.NotEq (Value.ref _) _) _ _ _)); (first | (k_unfold; (try dsimp only)) | ((with_reducible first | show wpAny _ _ (exec _ _) _ _ _ | show wpAny _ _ (execs _ _) _ _ _); k_fold) | (k_end; wrow_close) | walk1 | (dsimp only; walk1) | (leave1; (try dsimp only))))) <;> (repeat (k_unfold; (try dsimp only))))
  rename Fr _ _ _ _ => F5
  rename News _ _ _ _ => N5
  have hok : ∀ x ∈ [Tx [101, 110, 100], Tx []], PyData.strOk x = true := by decide +kernel
  refine ne_strs (vs := [Value.str (Tx [101, 110, 100]) t9, Value.str (Tx []) t10]) (us := [Value.str (Str.ofString "end") tk10, Value.str (Str.ofString "") (tk10 + 1)]) (xs := [Tx [101, 110, 100], Tx []]) (ys := [Tx [101, 110, 100], Tx []]) (News.isList N5 (.tail _ (.head _))) (News.isList N5 (.head _)) (.cons _ _ (.cons _ _ .nil)) (by rw [lit_end, lit_e]; exact .cons _ _ (.cons _ _ .nil)) hok hok (by ke_room) ?_
  rw [decide_eq_true rfl, Bool.not_true]
  (try dsimp only)
  ((repeat' ((fail_if_success (with_reducible show wpAny _ _ (execs (Stmt.Assign [Expr.Name (Str.ofString "character") _] _ _ :: _) _) _ _ _)); (first | (k_unfold; (try dsimp only)) | ((with_reducible first | show wpAny _ _ (exec _ _) _ _ _ | show wpAny _ _ (execs _ _) _ _ _); k_fold) | (k_end; wrow_close) | walk1 | (dsimp only; walk1) | (leave1; (try dsimp only))))) <;> (repeat (k_unfold; (try dsimp only))))
  (try dsimp only)
  rename Fr _ _ _ _ => F6
  rename News _ _ _ _ => N6
  obtain ⟨st, hst⟩ : ∃ st : Nat, (t1 * t2) % (n : Int) = (st : Int) := ⟨((t1 * t2) % (n : Int)).toNat, by have := Int.emod_nonneg (t1 * t2) (b := (n : Int)) (by omega); omega⟩
  have hstn : st < n := by have := Int.emod_lt_of_pos (t1 * t2) (b := (n : Int)) (by omega); omega
  have N7 : News h₀ L _ ((D2, listOf i2.toArray kk2) :: [(173, tabObj tab), (Dt, listOf #[Value.int t0 u0, Value.int t1 u1, Value.int t2 u2] kt), (L + 1 + 1 + 1 + 1 + 1, o5), (L + 1 + 1 + 1 + 1, o4), (L + 1 + 1 + 1, o3), (L + 1 + 1, o2), (L + 1, o1)] ++ (T3 ++ T4)) := fun q hq => by
    refine N6 q (.tail _ (.tail _ ?_))
    rcases List.mem_append.mp hq with hq | hq
    · rcases List.mem_cons.mp hq with rfl | hq
      · exact .head _
      · exact List.mem_append_left _ (List.mem_append_left _ (.tail _ (.tail _ hq)))
    · exact List.mem_append_left _ (List.mem_append_right _ hq)
  refine stD1 (s := { s with heap := _, toks := _ }) (by exact rfl) B X T hn hstn hst hb1 hb2 S3 S4 k2 (hv4 ▸ k4) k5 (by rw [← row_step hst]; exact hst2) dDt hL hd' hu hQ F6 N7 (fun q hq r hr => ?_) (fun q hq => dD2 q (.tail _ hq))
  rcases List.mem_cons.mp hq with rfl | hq
  · exact offT _ (.head _) r hr
  · exact offT q (.tail _ (.tail _ hq)) r hr
theorem stC1 (hdef : lawRest ((hd.heap_1 w.params).lookup 216) 9 = some (rest, scope)) (B : Below A₀ base outer h₀) (X : (hd.heap_1 w.params).In h₀) (T : Top tp tl mean mg mb h₀)
    {sc Dt : Addr} {kt n : Nat} {b t0 t1 t2 : Int} {u0 u1 u2 un' th tt : Tok} (hn : 3 ≤ n ∧ n ≤ 15 ∧ n % 2 = 1) (hb1 : -2000 ≤ t1 ∧ t1 ≤ 2000) (hb2 : -2000 ≤ t2 ∧ t2 ≤ 2000)
    {a : LexA} {adr : List Addr} {RO : Nat → List (Addr × Obj) → Prop} {blk T3 T4 : List (Addr × Obj)} {tab : Array Value} (Rd : Reader w a.rd (Tx (textL n b)) adr RO) (O : a.Ok adr)
    (S3 : TabSt 37 35 4 "_int2digits.<locals>.inner" T3) (S4 : TabSt 44 50 4 "_digits2int.<locals>.inner" T4)
    {o1 o2 o3 o4 o5 : Obj} (k1 : cellIs o1 (some (.ref Dt))) (k2 : cellIs o2 (some (.int (n : Int) un'))) (k3 : cellIs o3 (some (.ref a.x))) {v4 v5 : Option Value} (k4 : cellIs o4 v4) (k5 : cellIs o5 v5)
    {p : Nat} (M : MachSt w a RO (1 + nlTo (Tx (textL n b)) p) "\n\t\r " [] p blk) (hp : p ≤ (Tx (textL n b)).length) (hcd : ∃ pre, preL pre ∧ codes (Tx (textL n b)) p = pre ++ [101, 110, 100])
    {Dw D2 : Addr} {yw i2 : List Value} {kk2 : Nat} {once : Option Value} {tp' : Tok} (hv4 : v4 = some (.int (t1 * t2) tp')) (hyw : StrsAre yw ((List.range n).map blank)) (hst2 : StrsAre i2 ((List.range n).map fun k => blank (rowQ n (t1 * t2) k)))
    (F : Fr h₀ L s.heap (wl (some (.ref sc)) (some (.int ((n / 2 : Nat) : Int) th)) (some (.str (Tx (textL n b)) tt)) (some (.ref Dw)) once (some (.ref D2)) none none none none none none))
    (N : News h₀ L s.heap ((D2, listOf i2.toArray kk2) :: (Dw, LCg.lst yw) :: [(173, tabObj tab), (Dt, listOf #[Value.int t0 u0, Value.int t1 u1, Value.int t2 u2] kt), (L + 1 + 1 + 1 + 1 + 1, o5), (L + 1 + 1 + 1 + 1, o4), (L + 1 + 1 + 1, o3), (L + 1 + 1, o2), (L + 1, o1)] ++ (blk ++ (T3 ++ T4))))
    (offM : ∀ q ∈ (D2, listOf i2.toArray kk2) :: (Dw, LCg.lst yw) :: [(173, tabObj tab), (Dt, listOf #[Value.int t0 u0, Value.int t1 u1, Value.int t2 u2] kt), (L + 1 + 1 + 1 + 1 + 1, o5), (L + 1 + 1 + 1 + 1, o4), (L + 1 + 1 + 1, o3), (L + 1 + 1, o2), (L + 1, o1)], q.1 ∉ a.adrs ++ adr) (offT : ∀ q ∈ (D2, listOf i2.toArray kk2) :: (Dw, LCg.lst yw) :: [(173, tabObj tab), (Dt, listOf #[Value.int t0 u0, Value.int t1 u1, Value.int t2 u2] kt), (L + 1 + 1 + 1 + 1 + 1, o5), (L + 1 + 1 + 1 + 1, o4), (L + 1 + 1 + 1, o3), (L + 1 + 1, o2), (L + 1, o1)], ∀ r ∈ T3 ++ T4, q.1 ≠ r.1)
    (dDw : ∀ q ∈ [(173, tabObj tab), (Dt, listOf #[Value.int t0 u0, Value.int t1 u1, Value.int t2 u2] kt), (L + 1 + 1 + 1 + 1 + 1, o5), (L + 1 + 1 + 1 + 1, o4), (L + 1 + 1 + 1, o3), (L + 1 + 1, o2), (L + 1, o1)], q.1 ≠ Dw) (dD2 : ∀ q ∈ (Dw, LCg.lst yw) :: [(173, tabObj tab), (Dt, listOf #[Value.int t0 u0, Value.int t1 u1, Value.int t2 u2] kt), (L + 1 + 1 + 1 + 1 + 1, o5), (L + 1 + 1 + 1 + 1, o4), (L + 1 + 1 + 1, o3), (L + 1 + 1, o2), (L + 1, o1)], q.1 ≠ D2)
    (offTM : ∀ r ∈ T3 ++ T4, r.1 ∉ a.adrs ++ adr) (dDt : ∀ q ∈ [(L + 1 + 1 + 1 + 1 + 1, o5), (L + 1 + 1 + 1 + 1, o4), (L + 1 + 1 + 1, o3), (L + 1 + 1, o2), (L + 1, o1)], Dt ≠ q.1)
    (hL : 173 < L) (hd' : dp + 200 < recursionLimit) (hu : un + 2000 < cLine) (hQ : LawEnd h₀ L Q s) :
    wpAny (model Challenge.rw_pe0259_01.row.prog w) (Ar dp un gd (envOfC "law" scope L fa cd :: outer)) (execs rest (envOfC "law" scope L fa cd)) Q E s := by
  revert hdef
  k_fill
  intro hdef
  refine' law_out ?hl hdef ?_
  (case hl => k_is)
  clear hdef
  intro hdef
  cases hdef
  have codeHd := codeHd_of_K (c := 41) (P := 37) X (by kernel_rfl)
  (try dsimp only [List.drop]); (try k_fold)
  unfold wl at F
  subst hv4
  obtain ⟨lt6, tw6, k6, l6, its6, hl6, hi6, rfl⟩ := id M
  have N0 := N
  simp only [lexObjs, List.cons_append, List.nil_append] at N
  have hsz : n ≤ sizeLine := by rw [sizeLine_eq]; omega
  ((repeat' ((fail_if_success (with_reducible show wpAny _ _ (eval (Expr.ListComp _ _ _ _) _) _ _ _)); (first | (k_unfold; (try dsimp only)) | ((with_reducible first | show wpAny _ _ (exec _ _) _ _ _ | show wpAny _ _ (execs _ _) _ _ _); k_fold) | (k_end; wrow_close) | walk1 | (dsimp only; walk1) | (leave1; (try dsimp only))))) <;> (repeat (k_unfold; (try dsimp only))))
  refine LCg.ListComp_U (F₀ := F) (by with_unfolding_all rfl) (by decide) (by rfl) (by decide) (by rfl) ?_
  ((repeat' ((fail_if_success (with_reducible show LCg.CompSrc _ _ _ _ _ _ _ _ _ _ _ _ _ _)); (first | (k_unfold; (try dsimp only)) | ((with_reducible first | show wpAny _ _ (exec _ _) _ _ _ | show wpAny _ _ (execs _ _) _ _ _); k_fold) | (k_end; wrow_close) | walk1 | (dsimp only; walk1) | (leave1; (try dsimp only))))) <;> (repeat (k_unfold; (try dsimp only))))
  rename IsRange _ _ _ _ _ _ _ _ => R4
  rename Fr _ _ _ _ => F4
  rename News _ _ _ _ => N4
  obtain ⟨NW, hNW⟩ : ∃ NW, NW = (D2, listOf i2.toArray kk2) :: (Dw, LCg.lst yw) :: [(173, tabObj tab), (Dt, listOf #[Value.int t0 u0, Value.int t1 u1, Value.int t2 u2] kt), (L + 1 + 1 + 1 + 1 + 1, o5), (L + 1 + 1 + 1 + 1, o4), (L + 1 + 1 + 1, o3), (L + 1 + 1, o2), (L + 1, o1)] ++ ((lexObjs w a (.int (1 + nlTo (Tx (textL n b)) p) lt6) (.str "\n\t\r " tw6) its6 k6 ++ l6) ++ (T3 ++ T4)) := ⟨_, rfl⟩
  refine LCg.CompSrc.range (n := n) (news := NW) rfl F4 (by rw [hNW]; exact N4) R4 (small_one (by omega) (by omega) (by omega) (by omega)) (by rw [rangeSize_nat, Int.sub_zero, Int.toNat_natCast]) hsz (fun g' => ?_)
  refine rest_of n (fun i ys news => StrsAre ys ((List.range i).map blank) ∧ news = NW) ?_ ?_ _ 0 [] _ (Nat.zero_add _) ⟨.nil, rfl⟩
  · rintro i ys news v I oI C oC D m₂ h8 tk8 E' hi ⟨hys, rfl⟩ ⟨tv, rfl⟩ hns hx F11 N11 o3' ne
    rw [Int.zero_add] at hx
    clear F4 N4
    try clear F N
    (try dsimp only); (try k_fold)
    ((repeat' ((fail_if_success (with_reducible show LCg.CompEnd _ _ _ _ _ _ _ _ _ _ _ _ _ _)); (first | (k_unfold; (try dsimp only)) | ((with_reducible first | show wpAny _ _ (exec _ _) _ _ _ | show wpAny _ _ (execs _ _) _ _ _); k_fold) | (k_end; wrow_close) | walk1 | (dsimp only; walk1) | (leave1; (try dsimp only))))) <;> (repeat (k_unfold; (try dsimp only))))
    rename Fr _ _ _ _ => F13
    rename News _ _ _ _ => N13
    refine LCg.CompEnd.intro F13 N13 _ (fun q hq => hq) o3' trivial ⟨?_, rfl⟩
    rw [List.range_succ, List.map_append, lit_s, Tx_mul1]
    exact kct_snoc hys
  · rintro ys news ⟨hys, rfl⟩ Dc h8 tk8 F11 N11 oD
    subst hNW
    clear F4 N4
    try clear F N N0
    simp only [lexObjs, List.cons_append, List.nil_append] at N11
    (try dsimp only); (try k_fold)
    ((repeat' ((fail_if_success (with_reducible show wpAny _ _ (compareOp _ _ _) _ _ _)); (first | (k_unfold; (try dsimp only)) | ((with_reducible first | show wpAny _ _ (exec _ _) _ _ _ | show wpAny _ _ (execs _ _) _ _ _); k_fold) | (k_end; wrow_close) | walk1 | (dsimp only; walk1) | (leave1; (try dsimp only))))) <;> (repeat (k_unfold; (try dsimp only))))
    rename Fr _ _ _ _ => F12
    rename News _ _ _ _ => N12
    refine ne_strs (News.isList N12 (by k_mem)) (News.isList N12 (by k_mem)) hyw hys (ok_blanks n) (ok_blanks n) (by ke_room) ?_
    rw [decide_eq_true rfl, Bool.not_true]
    (try dsimp only)
    ((repeat' ((fail_if_success (with_reducible show wpAny _ _ (eval (Expr.ListComp _ _ _ _) _) _ _ _)); (first | (k_unfold; (try dsimp only)) | ((with_reducible first | show wpAny _ _ (exec _ _) _ _ _ | show wpAny _ _ (execs _ _) _ _ _); k_fold) | (k_end; wrow_close) | walk1 | (dsimp only; walk1) | (leave1; (try dsimp only))))) <;> (repeat (k_unfold; (try dsimp only))))
    refine LCg.ListComp_U (F₀ := F12) (by with_unfolding_all rfl) (by decide) (by rfl) (by decide) (by rfl) ?_
    ((repeat' ((fail_if_success (with_reducible show LCg.CompSrc _ _ _ _ _ _ _ _ _ _ _ _ _ _)); (first | (k_unfold; (try dsimp only)) | ((with_reducible first | show wpAny _ _ (exec _ _) _ _ _ | show wpAny _ _ (execs _ _) _ _ _); k_fold) | (k_end; wrow_close) | walk1 | (dsimp only; walk1) | (leave1; (try dsimp only))))) <;> (repeat (k_unfold; (try dsimp only))))
    rename IsRange _ _ _ _ _ _ _ _ => R5
    rename Fr _ _ _ _ => F5
    rename News _ _ _ _ => N5
    obtain ⟨NW, hNW⟩ : ∃ NW, NW = (D2, listOf i2.toArray kk2) :: (Dw, LCg.lst yw) :: [(173, tabObj tab), (Dt, listOf #[Value.int t0 u0, Value.int t1 u1, Value.int t2 u2] kt), (L + 1 + 1 + 1 + 1 + 1, o5), (L + 1 + 1 + 1 + 1, o4), (L + 1 + 1 + 1, o3), (L + 1 + 1, o2), (L + 1, o1)] ++ ((lexObjs w a (.int (1 + nlTo (Tx (textL n b)) p) lt6) (.str "\n\t\r " tw6) its6 k6 ++ l6) ++ (T3 ++ T4)) := ⟨_, rfl⟩
    refine LCg.CompSrc.range (n := n) (news := NW) rfl F5 (by rw [hNW]; exact fun q hq => N5 q (.tail _ hq)) R5 (small_one (by omega) (by omega) (by omega) (by omega)) (by rw [rangeSize_nat, Int.sub_zero, Int.toNat_natCast]) hsz (fun g' => ?_)
    refine rest_of n (fun i ys news => StrsAre ys ((List.range i).map fun k => blank (rowQ n (t1 * t2) k)) ∧ news = NW) ?_ ?_ _ 0 [] _ (Nat.zero_add _) ⟨.nil, rfl⟩
    · rintro i ys news v I oI C oC D m₂ h8 tk8 E' hi ⟨hys, rfl⟩ ⟨tv, rfl⟩ hns hx F11 N11 o3' ne
      rw [Int.zero_add] at hx
      subst hNW
      clear F5 N5
      try clear F12 N12
      have hq := rowQ_lt (n := n) (by omega) (t1 * t2) i
      (try dsimp only); (try k_fold)
      ((repeat' ((fail_if_success (with_reducible show LCg.CompEnd _ _ _ _ _ _ _ _ _ _ _ _ _ _)); (first | ((with_reducible show wpAny _ _ (binaryOp Operator.Mult (Value.int _ _) (Value.int _ _)) _ _ _); refine mul_small (by omega) ?_) | ((with_reducible show wpAny _ _ (binaryOp Operator.Mod (Value.int _ _) (Value.int _ _)) _ _ _); refine mod_q (by omega) (by omega) ?_) | (k_unfold; (try dsimp only)) | ((with_reducible first | show wpAny _ _ (exec _ _) _ _ _ | show wpAny _ _ (execs _ _) _ _ _); k_fold) | (k_end; wrow_close) | walk1 | (dsimp only; walk1) | (leave1; (try dsimp only))))) <;> (repeat (k_unfold; (try dsimp only))))
      rename Fr _ _ _ _ => F13
      rename News _ _ _ _ => N13
      refine LCg.CompEnd.intro F13 N13 _ (fun q hq => hq) o3' trivial ⟨?_, rfl⟩
      rw [List.range_succ, List.map_append, lit_s, Tx_mul1]
      exact kct_snoc hys
    · rintro ys2 news ⟨hys2, rfl⟩ Dc2 h9 tk9 F11 N11 oD2
      subst hNW
      clear F5 N5
      try clear F12 N12
      simp only [lexObjs, List.cons_append, List.nil_append] at N11
      (try dsimp only); (try k_fold)
      ((repeat' ((fail_if_success (with_reducible show wpAny _ _ (compareOp _ _ _) _ _ _)); (first | (k_unfold; (try dsimp only)) | ((with_reducible first | show wpAny _ _ (exec _ _) _ _ _ | show wpAny _ _ (execs _ _) _ _ _); k_fold) | (k_end; wrow_close) | walk1 | (dsimp only; walk1) | (leave1; (try dsimp only))))) <;> (repeat (k_unfold; (try dsimp only))))
      rename Fr _ _ _ _ => F12
      rename News _ _ _ _ => N12
      refine ne_strs (News.isList N12 (by k_mem)) (News.isList N12 (by k_mem)) hst2 hys2 (ok_row n (t1 * t2)) (ok_row n (t1 * t2)) (by ke_room) ?_
      rw [decide_eq_true rfl, Bool.not_true]
      (try dsimp only)
      ((repeat' ((fail_if_success (with_reducible show wpAny _ _ (execs (Stmt.If _ _ _ _ :: _) _) _ _ _)); (first | (k_unfold; (try dsimp only)) | ((with_reducible first | show wpAny _ _ (exec _ _) _ _ _ | show wpAny _ _ (execs _ _) _ _ _); k_fold) | (k_end; wrow_close) | walk1 | (dsimp only; walk1) | (leave1; (try dsimp only))))) <;> (repeat (k_unfold; (try dsimp only))))
      (try dsimp only)
      rename Fr _ _ _ _ => F13
      rename News _ _ _ _ => N13
      refine stC2 (s := { s with heap := _, toks := _ }) (by exact rfl) B X T hn hb1 hb2 Rd O S3 S4 k1 k2 k3 k4 k5 M hp hcd rfl hyw hst2 F13 (fun q hq => N13 q (.tail _ hq)) offM offT dDw dD2 offTM dDt hL hd' hu hQ
theorem stB4 (hdef : lawRest ((hd.heap_1 w.params).lookup 216) 8 = some (rest, scope)) (B : Below A₀ base outer h₀) (X : (hd.heap_1 w.params).In h₀) (T : Top tp tl mean mg mb h₀)
    {sc Dt : Addr} {kt n : Nat} {b t0 t1 t2 : Int} {u0 u1 u2 un' th tt : Tok} (hn : 3 ≤ n ∧ n ≤ 15 ∧ n % 2 = 1) (hb1 : -2000 ≤ t1 ∧ t1 ≤ 2000) (hb2 : -2000 ≤ t2 ∧ t2 ≤ 2000)
    {a : LexA} {adr : List Addr} {RO : Nat → List (Addr × Obj) → Prop} {blk T3 T4 : List (Addr × Obj)} {tab : Array Value} (Rd : Reader w a.rd (Tx (textL n b)) adr RO) (O : a.Ok adr)
    (S3 : TabSt 37 35 4 "_int2digits.<locals>.inner" T3) (S4 : TabSt 44 50 4 "_digits2int.<locals>.inner" T4)
    {o1 o2 o3 o4 o5 : Obj} (k1 : cellIs o1 (some (.ref Dt))) (k2 : cellIs o2 (some (.int (n : Int) un'))) (k3 : cellIs o3 (some (.ref a.x))) {v4 v5 : Option Value} (k4 : cellIs o4 v4) (k5 : cellIs o5 v5)
    {p : Nat} (M : MachSt w a RO (1 + nlTo (Tx (textL n b)) p) "\n\t\r " [] p blk) (hp : p ≤ (Tx (textL n b)).length) (hcd : ∃ pre, preL pre ∧ codes (Tx (textL n b)) p = pre ++ [101, 110, 100])
    {Dw D2 : Addr} {yw i2 : List Value} {kk2 f1 f2 : Nat} {once : Option Value} (hyw : StrsAre yw ((List.range n).map blank)) (hf1 : (t1 - 1) % (n : Int) = (f1 : Int)) (hf2 : (t2 - 1) % (n : Int) = (f2 : Int)) (hst2 : StrsAre i2 (dealtTo (dealtTo ((List.range n).map blank) (f1 + 1) n) (f2 + 1) n))
    (F : Fr h₀ L s.heap (wl (some (.ref sc)) (some (.int ((n / 2 : Nat) : Int) th)) (some (.str (Tx (textL n b)) tt)) (some (.ref Dw)) once (some (.ref D2)) none none none none none none))
    (N : News h₀ L s.heap ((D2, listOf i2.toArray kk2) :: (Dw, LCg.lst yw) :: [(173, tabObj tab), (Dt, listOf #[Value.int t0 u0, Value.int t1 u1, Value.int t2 u2] kt), (L + 1 + 1 + 1 + 1 + 1, o5), (L + 1 + 1 + 1 + 1, o4), (L + 1 + 1 + 1, o3), (L + 1 + 1, o2), (L + 1, o1)] ++ (blk ++ (T3 ++ T4))))
    (offM : ∀ q ∈ (D2, listOf i2.toArray kk2) :: (Dw, LCg.lst yw) :: [(173, tabObj tab), (Dt, listOf #[Value.int t0 u0, Value.int t1 u1, Value.int t2 u2] kt), (L + 1 + 1 + 1 + 1 + 1, o5), (L + 1 + 1 + 1 + 1, o4), (L + 1 + 1 + 1, o3), (L + 1 + 1, o2), (L + 1, o1)], q.1 ∉ a.adrs ++ adr) (offT : ∀ q ∈ (D2, listOf i2.toArray kk2) :: (Dw, LCg.lst yw) :: [(173, tabObj tab), (Dt, listOf #[Value.int t0 u0, Value.int t1 u1, Value.int t2 u2] kt), (L + 1 + 1 + 1 + 1 + 1, o5), (L + 1 + 1 + 1 + 1, o4), (L + 1 + 1 + 1, o3), (L + 1 + 1, o2), (L + 1, o1)], ∀ r ∈ T3 ++ T4, q.1 ≠ r.1)
    (dDw : ∀ q ∈ [(173, tabObj tab), (Dt, listOf #[Value.int t0 u0, Value.int t1 u1, Value.int t2 u2] kt), (L + 1 + 1 + 1 + 1 + 1, o5), (L + 1 + 1 + 1 + 1, o4), (L + 1 + 1 + 1, o3), (L + 1 + 1, o2), (L + 1, o1)], q.1 ≠ Dw) (dD2 : ∀ q ∈ (Dw, LCg.lst yw) :: [(173, tabObj tab), (Dt, listOf #[Value.int t0 u0, Value.int t1 u1, Value.int t2 u2] kt), (L + 1 + 1 + 1 + 1 + 1, o5), (L + 1 + 1 + 1 + 1, o4), (L + 1 + 1 + 1, o3), (L + 1 + 1, o2), (L + 1, o1)], q.1 ≠ D2)
    (offTM : ∀ r ∈ T3 ++ T4, r.1 ∉ a.adrs ++ adr) (dDt : ∀ q ∈ [(L + 1 + 1 + 1 + 1 + 1, o5), (L + 1 + 1 + 1 + 1, o4), (L + 1 + 1 + 1, o3), (L + 1 + 1, o2), (L + 1, o1)], Dt ≠ q.1)
    (hL : 173 < L) (hd' : dp + 200 < recursionLimit) (hu : un + 2000 < cLine) (hQ : LawEnd h₀ L Q s) :
    wpAny (model Challenge.rw_pe0259_01.row.prog w) (Ar dp un gd (envOfC "law" scope L fa cd :: outer)) (execs rest (envOfC "law" scope L fa cd)) Q E s := by
  revert hdef
  k_fill
  intro hdef
  refine' law_out ?hl hdef ?_
  (case hl => k_is)
  clear hdef
  intro hdef
  cases hdef
  have codeHd := codeHd_of_K (c := 41) (P := 37) X (by kernel_rfl)
  (try dsimp only [List.drop]); (try k_fold)
  unfold wl at F
  obtain ⟨lt6, tw6, k6, l6, its6, hl6, hi6, rfl⟩ := id M
  obtain ⟨e1, e2, e3, e4, e5, e6⟩ := mach_ne M Rd (offM (L + 1 + 1 + 1 + 1, o4) (.tail _ (.tail _ (.tail _ (.tail _ (.tail _ (.head _)))))))
  have e7 : ∀ q ∈ l6 ++ (T3 ++ T4), q.1 ≠ L + 1 + 1 + 1 + 1 := fun q hq => by
    rcases List.mem_append.mp hq with hq | hq
    · exact e6 q hq
    · exact (offT (L + 1 + 1 + 1 + 1, o4) (.tail _ (.tail _ (.tail _ (.tail _ (.tail _ (.head _)))))) q hq).symm
  have e8 : L + 1 + 1 + 1 + 1 ≠ Dw := dDw (L + 1 + 1 + 1 + 1, o4) (.tail _ (.tail _ (.tail _ (.head _))))
  have e9 : L + 1 + 1 + 1 + 1 ≠ D2 := dD2 (L + 1 + 1 + 1 + 1, o4) (.tail _ (.tail _ (.tail _ (.tail _ (.head _)))))
  have e10 : Dt ≠ L + 1 + 1 + 1 + 1 := dDt (L + 1 + 1 + 1 + 1, o4) (.tail _ (.head _))
  have c6 := kn37 hL
  simp only [lexObjs, List.cons_append, List.nil_append] at N
  have hb1' : -100000 ≤ [t0, t1, t2].getD (Int.toNat 1) 0 ∧ [t0, t1, t2].getD (Int.toNat 1) 0 ≤ 100000 := by
    show -100000 ≤ t1 ∧ t1 ≤ 100000
    omega
  ((repeat' ((fail_if_success (with_reducible show wpAny _ _ (execs (Stmt.If _ _ _ _ :: _) _) _ _ _)); (first | ((with_reducible show wpAny _ _ (binaryOp Operator.Mult (Value.int _ _) (Value.int _ _)) _ _ _); refine mul_small hb1' ?_) | (k_unfold; (try dsimp only)) | ((with_reducible first | show wpAny _ _ (exec _ _) _ _ _ | show wpAny _ _ (execs _ _) _ _ _); k_fold) | (k_end; wrow_close) | walk1 | (dsimp only; walk1) | (leave1; (try dsimp only))))) <;> (repeat (k_unfold; (try dsimp only))))
  rename_i _ _ _ o4' _ _ d4'
  rename Fr _ _ _ _ => F11
  rename News _ _ _ _ => N11
  (try dsimp only)
  have F12 : Fr h₀ L _ (wl (some (.ref sc)) (some (.int ((n / 2 : Nat) : Int) th)) (some (.str (Tx (textL n b)) tt)) (some (.ref Dw)) once (some (.ref D2)) none none none none none none) := Fr.congr F11 (by (intro y; unfold wl; (rcases Classical.em (y = "script") with rfl | h0); exact rfl; (rcases Classical.em (y = "half") with rfl | h1); exact rfl; (rcases Classical.em (y = "text") with rfl | h2); exact rfl; (rcases Classical.em (y = "words") with rfl | h3); exact rfl; (rcases Classical.em (y = "once") with rfl | h4); exact rfl; (rcases Classical.em (y = "row") with rfl | h5); exact rfl; (rcases Classical.em (y = "character") with rfl | h6); exact rfl; (rcases Classical.em (y = "turned") with rfl | h7); exact rfl; (rcases Classical.em (y = "stairs") with rfl | h8); exact rfl; (rcases Classical.em (y = "crossed") with rfl | h9); exact rfl; (rcases Classical.em (y = "lead") with rfl | h10); exact rfl; (rcases Classical.em (y = "passed") with rfl | h11); exact rfl; (try simp only [if_neg h0, if_neg h1, if_neg h2, if_neg h3, if_neg h4, if_neg h5, if_neg h6, if_neg h7, if_neg h8, if_neg h9, if_neg h10, if_neg h11]); (first | done | exact rfl | (show List.lookup y (_ :: _) = none; simp only [List.lookup, beq_eq_false_iff_ne.mpr h0, beq_eq_false_iff_ne.mpr h1, beq_eq_false_iff_ne.mpr h2, beq_eq_false_iff_ne.mpr h3, beq_eq_false_iff_ne.mpr h4, beq_eq_false_iff_ne.mpr h5, beq_eq_false_iff_ne.mpr h6, beq_eq_false_iff_ne.mpr h7, beq_eq_false_iff_ne.mpr h8, beq_eq_false_iff_ne.mpr h9, beq_eq_false_iff_ne.mpr h10, beq_eq_false_iff_ne.mpr h11]) | (simp only [List.lookup, beq_eq_false_iff_ne.mpr h0, beq_eq_false_iff_ne.mpr h1, beq_eq_false_iff_ne.mpr h2, beq_eq_false_iff_ne.mpr h3, beq_eq_false_iff_ne.mpr h4, beq_eq_false_iff_ne.mpr h5, beq_eq_false_iff_ne.mpr h6, beq_eq_false_iff_ne.mpr h7, beq_eq_false_iff_ne.mpr h8, beq_eq_false_iff_ne.mpr h9, beq_eq_false_iff_ne.mpr h10, beq_eq_false_iff_ne.mpr h11]; done))))
  refine stC1 (s := { s with heap := _, toks := _ }) (by exact rfl) B X T hn hb1 hb2 Rd O S3 S4 k1 k2 k3 d4' k5 M hp hcd rfl hyw (row_eq (by omega) hf1 hf2 ▸ hst2) F12 N11 ?_ ?_ ?_ ?_ offTM ?_ hL hd' hu hQ
  · exact fst_forall (P := fun x => x ∉ a.adrs ++ adr) (by rfl) offM
  · exact fst_forall (P := fun x => ∀ r ∈ T3 ++ T4, x ≠ r.1) (by rfl) offT
  · exact fst_forall (P := fun x => x ≠ Dw) (by rfl) dDw
  · exact fst_forall (P := fun x => x ≠ D2) (by rfl) dD2
  · exact fst_forall (P := fun x => Dt ≠ x) (by rfl) dDt
end

section
variable {w : World} {dp un : Nat} {gd : Option (List Code)} {outer : List Env} {A₀ : Around} {base h₀ : Heap} {L fa : Addr} {cd : Value} {tp : Program} {tl : List Str} {mean : ExcName → Option Value} {mg mb : Str → Option Value} {s : Shared} {Q : Flow → Shared → Prop} {E : Value → Shared → Prop} {rest : List Stmt} {scope : Scope}
theorem stB3 (hdef : lawRest ((hd.heap_1 w.params).lookup 216) 7 = some (rest, scope)) (B : Below A₀ base outer h₀) (X : (hd.heap_1 w.params).In h₀) (T : Top tp tl mean mg mb h₀)
    {sc Dt : Addr} {kt n : Nat} {b t0 t1 t2 : Int} {u0 u1 u2 un' th tt : Tok} (hn : 3 ≤ n ∧ n ≤ 15 ∧ n % 2 = 1) (hb1 : -2000 ≤ t1 ∧ t1 ≤ 2000) (hb2 : -2000 ≤ t2 ∧ t2 ≤ 2000)
    {a : LexA} {adr : List Addr} {RO : Nat → List (Addr × Obj) → Prop} {blk T3 T4 : List (Addr × Obj)} {tab : Array Value} (Rd : Reader w a.rd (Tx (textL n b)) adr RO) (O : a.Ok adr)
    (S3 : TabSt 37 35 4 "_int2digits.<locals>.inner" T3) (S4 : TabSt 44 50 4 "_digits2int.<locals>.inner" T4)
    {o1 o2 o3 o4 o5 : Obj} (k1 : cellIs o1 (some (.ref Dt))) (k2 : cellIs o2 (some (.int (n : Int) un'))) (k3 : cellIs o3 (some (.ref a.x))) {v4 v5 : Option Value} (k4 : cellIs o4 v4) (k5 : cellIs o5 v5)
    {p : Nat} (M : MachSt w a RO (1 + nlTo (Tx (textL n b)) p) "\n\t\r " [] p blk) (hp : p ≤ (Tx (textL n b)).length) (hcd : ∃ pre, preL pre ∧ codes (Tx (textL n b)) p = pre ++ [101, 110, 100])
    {Dw D1 : Addr} {yw i1 : List Value} {kk1 f1 : Nat} (hyw : StrsAre yw ((List.range n).map blank)) (hf1 : (t1 - 1) % (n : Int) = (f1 : Int)) (hst1 : StrsAre i1 (dealtTo ((List.range n).map blank) (f1 + 1) n)) (hD1w : D1 ≠ Dw)
    (F : Fr h₀ L s.heap (wl (some (.ref sc)) (some (.int ((n / 2 : Nat) : Int) th)) (some (.str (Tx (textL n b)) tt)) (some (.ref Dw)) (some (.ref D1)) none none none none none none none))
    (N : News h₀ L s.heap ((D1, listOf i1.toArray kk1) :: (Dw, LCg.lst yw) :: [(173, tabObj tab), (Dt, listOf #[Value.int t0 u0, Value.int t1 u1, Value.int t2 u2] kt), (L + 1 + 1 + 1 + 1 + 1, o5), (L + 1 + 1 + 1 + 1, o4), (L + 1 + 1 + 1, o3), (L + 1 + 1, o2), (L + 1, o1)] ++ (blk ++ (T3 ++ T4))))
    (offM : ∀ q ∈ (D1, listOf i1.toArray kk1) :: (Dw, LCg.lst yw) :: [(173, tabObj tab), (Dt, listOf #[Value.int t0 u0, Value.int t1 u1, Value.int t2 u2] kt), (L + 1 + 1 + 1 + 1 + 1, o5), (L + 1 + 1 + 1 + 1, o4), (L + 1 + 1 + 1, o3), (L + 1 + 1, o2), (L + 1, o1)], q.1 ∉ a.adrs ++ adr) (offT : ∀ q ∈ (D1, listOf i1.toArray kk1) :: (Dw, LCg.lst yw) :: [(173, tabObj tab), (Dt, listOf #[Value.int t0 u0, Value.int t1 u1, Value.int t2 u2] kt), (L + 1 + 1 + 1 + 1 + 1, o5), (L + 1 + 1 + 1 + 1, o4), (L + 1 + 1 + 1, o3), (L + 1 + 1, o2), (L + 1, o1)], ∀ r ∈ T3 ++ T4, q.1 ≠ r.1)
    (dDw : ∀ q ∈ [(173, tabObj tab), (Dt, listOf #[Value.int t0 u0, Value.int t1 u1, Value.int t2 u2] kt), (L + 1 + 1 + 1 + 1 + 1, o5), (L + 1 + 1 + 1 + 1, o4), (L + 1 + 1 + 1, o3), (L + 1 + 1, o2), (L + 1, o1)], q.1 ≠ Dw) (dD1 : ∀ q ∈ [(173, tabObj tab), (Dt, listOf #[Value.int t0 u0, Value.int t1 u1, Value.int t2 u2] kt), (L + 1 + 1 + 1 + 1 + 1, o5), (L + 1 + 1 + 1 + 1, o4), (L + 1 + 1 + 1, o3), (L + 1 + 1, o2), (L + 1, o1)], q.1 ≠ D1)
    (offTM : ∀ r ∈ T3 ++ T4, r.1 ∉ a.adrs ++ adr) (dDt : ∀ q ∈ [(L + 1 + 1 + 1 + 1 + 1, o5), (L + 1 + 1 + 1 + 1, o4), (L + 1 + 1 + 1, o3), (L + 1 + 1, o2), (L + 1, o1)], Dt ≠ q.1)
    (hL : 173 < L) (hd' : dp + 200 < recursionLimit) (hu : un + 2000 < cLine) (hQ : LawEnd h₀ L Q s) :
    wpAny (model Challenge.rw_pe0259_01.row.prog w) (Ar dp un gd (envOfC "law" scope L fa cd :: outer)) (execs rest (envOfC "law" scope L fa cd)) Q E s := by
  revert hdef
  k_fill
  intro hdef
  refine' law_out ?hl hdef ?_
  (case hl => k_is)
  clear hdef
  intro hdef
  cases hdef
  have codeHd := codeHd_of_K (c := 41) (P := 37) X (by kernel_rfl)
  (try dsimp only [List.drop]); (try k_fold)
  unfold wl at F
  obtain ⟨lt6, tw6, k6, l6, its6, hl6, hi6, rfl⟩ := id M
  simp only [lexObjs, List.cons_append, List.nil_append] at N
  ((repeat' ((fail_if_success (with_reducible show wpAny _ _ (call (Value.ref 63) _) _ _ _)); (first | (k_unfold; (try dsimp only)) | ((with_reducible first | show wpAny _ _ (exec _ _) _ _ _ | show wpAny _ _ (execs _ _) _ _ _); k_fold) | (k_end; wrow_close) | walk1 | (dsimp only; walk1) | (leave1; (try dsimp only))))) <;> (repeat (k_unfold; (try dsimp only))))
  rename Fr _ _ _ _ => F1
  rename News _ _ _ _ => N1
  rw [show ([t0, t1, t2].getD (Int.toNat 2) 0 - 1) = t2 - 1 from rfl]
  refine dm_use (aa := ((D1, listOf i1.toArray kk1) :: (Dw, LCg.lst yw) :: [(173, tabObj tab), (Dt, listOf #[Value.int t0 u0, Value.int t1 u1, Value.int t2 u2] kt), (L + 1 + 1 + 1 + 1 + 1, o5), (L + 1 + 1 + 1 + 1, o4), (L + 1 + 1 + 1, o3), (L + 1 + 1, o2), (L + 1, o1)]) ++ (lexObjs w a (.int (1 + nlTo (Tx (textL n b)) p) lt6) (.str "\n\t\r " tw6) its6 k6 ++ l6)) (T3 := T3) (T4 := T4) S3 S4 ?_ (by omega) (by omega) (by omega) B F1 X N1 T rfl rfl (by omega) (by omega) ?_
  · intro q hq r hr
    rcases List.mem_append.mp hq with hq | hq
    · exact offT q hq r hr
    · exact (of_adrs M Rd (offTM r hr) q hq)
  intro D9 T3' T4' tq9 tr9 h9 tk9 S3' S4' off9 offD9 offD9' F2 N2
  obtain ⟨f2, hf2⟩ : ∃ f2 : Nat, (t2 - 1) % (n : Int) = (f2 : Int) := ⟨((t2 - 1) % (n : Int)).toNat, by have := Int.emod_nonneg (t2 - 1) (b := (n : Int)) (by omega); omega⟩
  have hf2n : f2 < n := by have := Int.emod_lt_of_pos (t2 - 1) (b := (n : Int)) (by omega); omega
  rw [hf2] at N2
  clear F1 N1
  simp only [lexObjs, List.cons_append, List.nil_append, List.append_assoc] at N2
  (try dsimp only)
  ((repeat' ((fail_if_success (with_reducible show wpAny _ _ (call (Value.ref 197) _) _ _ _)); (first | (k_unfold; (try dsimp only)) | ((with_reducible first | show wpAny _ _ (exec _ _) _ _ _ | show wpAny _ _ (execs _ _) _ _ _); k_fold) | (k_end; wrow_close) | walk1 | (dsimp only; walk1) | (leave1; (try dsimp only))))) <;> (repeat (k_unfold; (try dsimp only))))
  rename Fr _ _ _ _ => F3
  rename News _ _ _ _ => N3
  have hl1 : (dealtTo ((List.range n).map blank) (f1 + 1) n).length = n := by simp [dealtTo]
  have hD19 : D1 ∉ a.adrs ++ adr := offM _ (.head _)
  have hok1 := ok_dealt (f1 + 1) n (ws := (List.range n).map blank) (ok_blanks n)
  refine use_g (dealt_c w a (Tx (textL n b)) adr RO Rd O _ _ p _ M D1 i1 _ kk1 f2 _ hst1 hD19 (by rw [hl1]; omega) (by rw [hl1]; omega) (by omega) hok1) (oth := (Dw, LCg.lst yw) :: [(173, tabObj tab), (Dt, listOf #[Value.int t0 u0, Value.int t1 u1, Value.int t2 u2] kt), (L + 1 + 1 + 1 + 1 + 1, o5), (L + 1 + 1 + 1 + 1, o4), (L + 1 + 1 + 1, o3), (L + 1 + 1, o2), (L + 1, o1)] ++ (T3' ++ T4')) B F3 X N3 T rfl rfl ?_ ?_ ?_ (by omega) (by omega) ?_
  · exact List.forall_mem_cons.mpr ⟨.tail _ (.head _), fun q hq => mem_skip ((D9, _) :: (D1, _) :: (Dw, _) :: [(173, tabObj tab), (Dt, listOf #[Value.int t0 u0, Value.int t1 u1, Value.int t2 u2] kt), (L + 1 + 1 + 1 + 1 + 1, o5), (L + 1 + 1 + 1 + 1, o4), (L + 1 + 1 + 1, o3), (L + 1 + 1, o2), (L + 1, o1)]) (List.mem_append_left (T3' ++ T4') hq)⟩
  · intro q hq
    rcases List.mem_append.mp hq with hq | hq
    · exact List.mem_append_left _ (.tail _ (.tail _ hq))
    · exact List.mem_append_right ((D9, _) :: (D1, _) :: (Dw, _) :: [(173, tabObj tab), (Dt, listOf #[Value.int t0 u0, Value.int t1 u1, Value.int t2 u2] kt), (L + 1 + 1 + 1 + 1 + 1, o5), (L + 1 + 1 + 1 + 1, o4), (L + 1 + 1 + 1, o3), (L + 1 + 1, o2), (L + 1, o1)]) (List.mem_append_right (lexObjs _ _ _ _ _ _ ++ l6) hq)
  · intro q hq r hr
    have h1 : q.1 ≠ D1 ∧ q.1 ∉ a.adrs ++ adr := by
      rcases List.mem_append.mp hq with hq | hq
      · rcases List.mem_cons.mp hq with rfl | hq
        · exact ⟨hD1w.symm, offM _ (.tail _ (.head _))⟩
        · exact ⟨dD1 q hq, offM q (.tail _ (.tail _ hq))⟩
      · exact ⟨(off9 (D1, _) (.head _) q hq).symm, not_adrs M Rd (fun r hr => off9 r (List.mem_append_right _ hr) q hq)⟩
    rcases List.mem_cons.mp hr with rfl | hr
    · exact h1.1
    · exact (of_adrs M Rd h1.2 r hr).symm
  rintro v10 blk10 h10 tk10 F10 N10 ne10 - ⟨D2, i2, kk2, blk2, rfl, hst2, M2, hD2, hD21, rfl⟩
  rw [hl1] at hst2
  have N11 : News h₀ L h10 ((D2, listOf i2.toArray kk2) :: (Dw, LCg.lst yw) :: [(173, tabObj tab), (Dt, listOf #[Value.int t0 u0, Value.int t1 u1, Value.int t2 u2] kt), (L + 1 + 1 + 1 + 1 + 1, o5), (L + 1 + 1 + 1 + 1, o4), (L + 1 + 1 + 1, o3), (L + 1 + 1, o2), (L + 1, o1)] ++ (blk2 ++ (T3' ++ T4'))) := fun q hq => by
    rcases List.mem_cons.mp hq with rfl | hq
    · exact N10 _ (.head _)
    · rcases List.mem_append.mp (show q ∈ (Dw, LCg.lst yw) :: [(173, tabObj tab), (Dt, listOf #[Value.int t0 u0, Value.int t1 u1, Value.int t2 u2] kt), (L + 1 + 1 + 1 + 1 + 1, o5), (L + 1 + 1 + 1 + 1, o4), (L + 1 + 1 + 1, o3), (L + 1 + 1, o2), (L + 1, o1)] ++ (blk2 ++ (T3' ++ T4')) from hq) with hq | hq
      · exact N10 q (List.mem_append_right _ (List.mem_append_left _ hq))
      · rcases List.mem_append.mp hq with hq | hq
        · exact N10 q (List.mem_append_left _ (.tail _ (.tail _ hq)))
        · exact N10 q (List.mem_append_right _ (List.mem_append_right _ hq))
  clear F3 N3 N10
  try clear F2 N2
  try clear N
  (try dsimp only)
  ((repeat' ((fail_if_success (with_reducible show wpAny _ _ (execs (Stmt.Assign [Expr.Name (Str.ofString "product") _] _ _ :: _) _) _ _ _)); (first | (k_unfold; (try dsimp only)) | ((with_reducible first | show wpAny _ _ (exec _ _) _ _ _ | show wpAny _ _ (execs _ _) _ _ _); k_fold) | (k_end; wrow_close) | walk1 | (dsimp only; walk1) | (leave1; (try dsimp only))))) <;> (repeat (k_unfold; (try dsimp only))))
  rename Fr _ _ _ _ => F11
  rename News _ _ _ _ => N12
  have F12 : Fr h₀ L _ (wl (some (.ref sc)) (some (.int ((n / 2 : Nat) : Int) th)) (some (.str (Tx (textL n b)) tt)) (some (.ref Dw)) (some (.ref D1)) (some (.ref D2)) none none none none none none) := Fr.congr F11 (by (intro y; unfold wl; (rcases Classical.em (y = "script") with rfl | h0); exact rfl; (rcases Classical.em (y = "half") with rfl | h1); exact rfl; (rcases Classical.em (y = "text") with rfl | h2); exact rfl; (rcases Classical.em (y = "words") with rfl | h3); exact rfl; (rcases Classical.em (y = "once") with rfl | h4); exact rfl; (rcases Classical.em (y = "row") with rfl | h5); exact rfl; (rcases Classical.em (y = "character") with rfl | h6); exact rfl; (rcases Classical.em (y = "turned") with rfl | h7); exact rfl; (rcases Classical.em (y = "stairs") with rfl | h8); exact rfl; (rcases Classical.em (y = "crossed") with rfl | h9); exact rfl; (rcases Classical.em (y = "lead") with rfl | h10); exact rfl; (rcases Classical.em (y = "passed") with rfl | h11); exact rfl; (try simp only [if_neg h0, if_neg h1, if_neg h2, if_neg h3, if_neg h4, if_neg h5, if_neg h6, if_neg h7, if_neg h8, if_neg h9, if_neg h10, if_neg h11]); (first | done | exact rfl | (show List.lookup y (_ :: _) = none; simp only [List.lookup, beq_eq_false_iff_ne.mpr h0, beq_eq_false_iff_ne.mpr h1, beq_eq_false_iff_ne.mpr h2, beq_eq_false_iff_ne.mpr h3, beq_eq_false_iff_ne.mpr h4, beq_eq_false_iff_ne.mpr h5, beq_eq_false_iff_ne.mpr h6, beq_eq_false_iff_ne.mpr h7, beq_eq_false_iff_ne.mpr h8, beq_eq_false_iff_ne.mpr h9, beq_eq_false_iff_ne.mpr h10, beq_eq_false_iff_ne.mpr h11]) | (simp only [List.lookup, beq_eq_false_iff_ne.mpr h0, beq_eq_false_iff_ne.mpr h1, beq_eq_false_iff_ne.mpr h2, beq_eq_false_iff_ne.mpr h3, beq_eq_false_iff_ne.mpr h4, beq_eq_false_iff_ne.mpr h5, beq_eq_false_iff_ne.mpr h6, beq_eq_false_iff_ne.mpr h7, beq_eq_false_iff_ne.mpr h8, beq_eq_false_iff_ne.mpr h9, beq_eq_false_iff_ne.mpr h10, beq_eq_false_iff_ne.mpr h11]; done))))
  refine stB4 (s := { s with heap := _, toks := _ }) (by exact rfl) B X T hn hb1 hb2 Rd O S3' S4' k1 k2 k3 k4 k5 M2 hp hcd hyw hf1 hf2 hst2 F12 N12 ?_ ?_ ?_ ?_ ?_ dDt hL hd' hu hQ
  · exact List.forall_mem_cons.mpr ⟨hD2, fun q hq => offM q (.tail _ hq)⟩
  · exact List.forall_mem_cons.mpr ⟨fun r hr => ne10 _ (.head _) r (List.mem_append_right _ hr), fun q hq r hr => off9 q (List.mem_append_left _ (.tail _ hq)) r hr⟩
  · exact dDw
  · exact fun q hq => (ne10 _ (.head _) q (List.mem_append_left _ hq)).symm
  · exact fun r hr => not_adrs M Rd (fun x hx => off9 x (List.mem_append_right _ hx) r hr)
theorem stB2 (hdef : lawRest ((hd.heap_1 w.params).lookup 216) 6 = some (rest, scope)) (B : Below A₀ base outer h₀) (X : (hd.heap_1 w.params).In h₀) (T : Top tp tl mean mg mb h₀)
    {sc Dt : Addr} {kt n : Nat} {b t0 t1 t2 : Int} {u0 u1 u2 un' th tt : Tok} (hn : 3 ≤ n ∧ n ≤ 15 ∧ n % 2 = 1) (hb1 : -2000 ≤ t1 ∧ t1 ≤ 2000) (hb2 : -2000 ≤ t2 ∧ t2 ≤ 2000)
    {a : LexA} {adr : List Addr} {RO : Nat → List (Addr × Obj) → Prop} {blk T3 T4 : List (Addr × Obj)} {tab : Array Value} (Rd : Reader w a.rd (Tx (textL n b)) adr RO) (O : a.Ok adr)
    (S3 : TabSt 37 35 4 "_int2digits.<locals>.inner" T3) (S4 : TabSt 44 50 4 "_digits2int.<locals>.inner" T4)
    {o1 o2 o3 o4 o5 : Obj} (k1 : cellIs o1 (some (.ref Dt))) (k2 : cellIs o2 (some (.int (n : Int) un'))) (k3 : cellIs o3 (some (.ref a.x))) {v4 v5 : Option Value} (k4 : cellIs o4 v4) (k5 : cellIs o5 v5)
    {p : Nat} (M : MachSt w a RO (1 + nlTo (Tx (textL n b)) p) "\n\t\r " [] p blk) (hp : p ≤ (Tx (textL n b)).length) (hcd : ∃ pre, preL pre ∧ codes (Tx (textL n b)) p = pre ++ [101, 110, 100])
    {Dw : Addr} {yw : List Value} (hyw : StrsAre yw ((List.range n).map blank))
    (F : Fr h₀ L s.heap (wl (some (.ref sc)) (some (.int ((n / 2 : Nat) : Int) th)) (some (.str (Tx (textL n b)) tt)) (some (.ref Dw)) none none none none none none none none))
    (N : News h₀ L s.heap ((Dw, LCg.lst yw) :: [(173, tabObj tab), (Dt, listOf #[Value.int t0 u0, Value.int t1 u1, Value.int t2 u2] kt), (L + 1 + 1 + 1 + 1 + 1, o5), (L + 1 + 1 + 1 + 1, o4), (L + 1 + 1 + 1, o3), (L + 1 + 1, o2), (L + 1, o1)] ++ (blk ++ (T3 ++ T4))))
    (offM : ∀ q ∈ (Dw, LCg.lst yw) :: [(173, tabObj tab), (Dt, listOf #[Value.int t0 u0, Value.int t1 u1, Value.int t2 u2] kt), (L + 1 + 1 + 1 + 1 + 1, o5), (L + 1 + 1 + 1 + 1, o4), (L + 1 + 1 + 1, o3), (L + 1 + 1, o2), (L + 1, o1)], q.1 ∉ a.adrs ++ adr) (offT : ∀ q ∈ (Dw, LCg.lst yw) :: [(173, tabObj tab), (Dt, listOf #[Value.int t0 u0, Value.int t1 u1, Value.int t2 u2] kt), (L + 1 + 1 + 1 + 1 + 1, o5), (L + 1 + 1 + 1 + 1, o4), (L + 1 + 1 + 1, o3), (L + 1 + 1, o2), (L + 1, o1)], ∀ r ∈ T3 ++ T4, q.1 ≠ r.1)
    (dDw : ∀ q ∈ [(173, tabObj tab), (Dt, listOf #[Value.int t0 u0, Value.int t1 u1, Value.int t2 u2] kt), (L + 1 + 1 + 1 + 1 + 1, o5), (L + 1 + 1 + 1 + 1, o4), (L + 1 + 1 + 1, o3), (L + 1 + 1, o2), (L + 1, o1)], q.1 ≠ Dw)
    (offTM : ∀ r ∈ T3 ++ T4, r.1 ∉ a.adrs ++ adr) (dDt : ∀ q ∈ [(L + 1 + 1 + 1 + 1 + 1, o5), (L + 1 + 1 + 1 + 1, o4), (L + 1 + 1 + 1, o3), (L + 1 + 1, o2), (L + 1, o1)], Dt ≠ q.1)
    (hL : 173 < L) (hd' : dp + 200 < recursionLimit) (hu : un + 2000 < cLine) (hQ : LawEnd h₀ L Q s) :
    wpAny (model Challenge.rw_pe0259_01.row.prog w) (Ar dp un gd (envOfC "law" scope L fa cd :: outer)) (execs rest (envOfC "law" scope L fa cd)) Q E s := by
  revert hdef
  k_fill
  intro hdef
  refine' law_out ?hl hdef ?_
  (case hl => k_is)
  clear hdef
  intro hdef
  cases hdef
  have codeHd := codeHd_of_K (c := 41) (P := 37) X (by kernel_rfl)
  (try dsimp only [List.drop]); (try k_fold)
  unfold wl at F
  obtain ⟨lt6, tw6, k6, l6, its6, hl6, hi6, rfl⟩ := id M
  simp only [lexObjs, List.cons_append, List.nil_append] at N
  ((repeat' ((fail_if_success (with_reducible show wpAny _ _ (call (Value.ref 63) _) _ _ _)); (first | (k_unfold; (try dsimp only)) | ((with_reducible first | show wpAny _ _ (exec _ _) _ _ _ | show wpAny _ _ (execs _ _) _ _ _); k_fold) | (k_end; wrow_close) | walk1 | (dsimp only; walk1) | (leave1; (try dsimp only))))) <;> (repeat (k_unfold; (try dsimp only))))
  rename Fr _ _ _ _ => F1
  rename News _ _ _ _ => N1
  rw [show ([t0, t1, t2].getD (Int.toNat 1) 0 - 1) = t1 - 1 from rfl]
  refine dm_use (aa := ((Dw, LCg.lst yw) :: [(173, tabObj tab), (Dt, listOf #[Value.int t0 u0, Value.int t1 u1, Value.int t2 u2] kt), (L + 1 + 1 + 1 + 1 + 1, o5), (L + 1 + 1 + 1 + 1, o4), (L + 1 + 1 + 1, o3), (L + 1 + 1, o2), (L + 1, o1)]) ++ (lexObjs w a (.int (1 + nlTo (Tx (textL n b)) p) lt6) (.str "\n\t\r " tw6) its6 k6 ++ l6)) (T3 := T3) (T4 := T4) S3 S4 ?_ (by omega) (by omega) (by omega) B F1 X N1 T rfl rfl (by omega) (by omega) ?_
  · intro q hq r hr
    rcases List.mem_append.mp hq with hq | hq
    · exact offT q hq r hr
    · exact (of_adrs M Rd (offTM r hr) q hq)
  intro D9 T3' T4' tq9 tr9 h9 tk9 S3' S4' off9 offD9 offD9' F2 N2
  obtain ⟨f1, hf1⟩ : ∃ f1 : Nat, (t1 - 1) % (n : Int) = (f1 : Int) := ⟨((t1 - 1) % (n : Int)).toNat, by have := Int.emod_nonneg (t1 - 1) (b := (n : Int)) (by omega); omega⟩
  have hf1n : f1 < n := by have := Int.emod_lt_of_pos (t1 - 1) (b := (n : Int)) (by omega); omega
  rw [hf1] at N2
  clear F1 N1
  simp only [lexObjs, List.cons_append, List.nil_append, List.append_assoc] at N2
  (try dsimp only)
  ((repeat' ((fail_if_success (with_reducible show wpAny _ _ (call (Value.ref 197) _) _ _ _)); (first | (k_unfold; (try dsimp only)) | ((with_reducible first | show wpAny _ _ (exec _ _) _ _ _ | show wpAny _ _ (execs _ _) _ _ _); k_fold) | (k_end; wrow_close) | walk1 | (dsimp only; walk1) | (leave1; (try dsimp only))))) <;> (repeat (k_unfold; (try dsimp only))))
  rename Fr _ _ _ _ => F3
  rename News _ _ _ _ => N3
  have hlw : ((List.range n).map blank).length = n := by simp
  have hDw9 : Dw ∉ a.adrs ++ adr := offM _ (.head _)
  refine use_g (dealt_c w a (Tx (textL n b)) adr RO Rd O _ _ p _ M Dw yw ((List.range n).map blank) yw.length f1 _ hyw hDw9 (by rw [hlw]; omega) (by rw [hlw]; omega) (by omega) (ok_blanks n)) (oth := [(173, tabObj tab), (Dt, listOf #[Value.int t0 u0, Value.int t1 u1, Value.int t2 u2] kt), (L + 1 + 1 + 1 + 1 + 1, o5), (L + 1 + 1 + 1 + 1, o4), (L + 1 + 1 + 1, o3), (L + 1 + 1, o2), (L + 1, o1)] ++ (T3' ++ T4')) B F3 X N3 T rfl rfl ?_ ?_ ?_ (by omega) (by omega) ?_
  · exact List.forall_mem_cons.mpr ⟨.tail _ (.head _), fun q hq => mem_skip ((D9, _) :: (Dw, _) :: [(173, tabObj tab), (Dt, listOf #[Value.int t0 u0, Value.int t1 u1, Value.int t2 u2] kt), (L + 1 + 1 + 1 + 1 + 1, o5), (L + 1 + 1 + 1 + 1, o4), (L + 1 + 1 + 1, o3), (L + 1 + 1, o2), (L + 1, o1)]) (List.mem_append_left (T3' ++ T4') hq)⟩
  · intro q hq
    rcases List.mem_append.mp hq with hq | hq
    · exact List.mem_append_left _ (.tail _ (.tail _ hq))
    · exact List.mem_append_right ((D9, _) :: (Dw, _) :: [(173, tabObj tab), (Dt, listOf #[Value.int t0 u0, Value.int t1 u1, Value.int t2 u2] kt), (L + 1 + 1 + 1 + 1 + 1, o5), (L + 1 + 1 + 1 + 1, o4), (L + 1 + 1 + 1, o3), (L + 1 + 1, o2), (L + 1, o1)]) (List.mem_append_right (lexObjs _ _ _ _ _ _ ++ l6) hq)
  · intro q hq r hr
    have h1 : q.1 ≠ Dw ∧ q.1 ∉ a.adrs ++ adr := by
      rcases List.mem_append.mp hq with hq | hq
      · exact ⟨dDw q hq, offM q (.tail _ hq)⟩
      · exact ⟨(off9 (Dw, _) (.head _) q hq).symm, not_adrs M Rd (fun r hr => off9 r (List.mem_append_right _ hr) q hq)⟩
    rcases List.mem_cons.mp hr with rfl | hr
    · exact h1.1
    · exact (of_adrs M Rd h1.2 r hr).symm
  rintro v10 blk10 h10 tk10 F10 N10 ne10 - ⟨D1, i1, kk1, blk1, rfl, hst1, M1, hD1, hD1w, rfl⟩
  rw [hlw] at hst1
  have N11 : News h₀ L h10 ((D1, listOf i1.toArray kk1) :: (Dw, LCg.lst yw) :: [(173, tabObj tab), (Dt, listOf #[Value.int t0 u0, Value.int t1 u1, Value.int t2 u2] kt), (L + 1 + 1 + 1 + 1 + 1, o5), (L + 1 + 1 + 1 + 1, o4), (L + 1 + 1 + 1, o3), (L + 1 + 1, o2), (L + 1, o1)] ++ (blk1 ++ (T3' ++ T4'))) := fun q hq => by
    rcases List.mem_cons.mp hq with rfl | hq
    · exact N10 _ (.head _)
    · rcases List.mem_cons.mp hq with rfl | hq
      · exact N10 _ (.tail _ (.head _))
      · rcases List.mem_append.mp (show q ∈ [(173, tabObj tab), (Dt, listOf #[Value.int t0 u0, Value.int t1 u1, Value.int t2 u2] kt), (L + 1 + 1 + 1 + 1 + 1, o5), (L + 1 + 1 + 1 + 1, o4), (L + 1 + 1 + 1, o3), (L + 1 + 1, o2), (L + 1, o1)] ++ (blk1 ++ (T3' ++ T4')) from hq) with hq | hq
        · exact N10 q (List.mem_append_right _ (List.mem_append_left _ hq))
        · rcases List.mem_append.mp hq with hq | hq
          · exact N10 q (List.mem_append_left _ (.tail _ (.tail _ hq)))
          · exact N10 q (List.mem_append_right _ (List.mem_append_right _ hq))
  clear F3 N3 N10
  try clear F2 N2
  try clear N
  (try dsimp only)
  ((repeat' ((fail_if_success (with_reducible show wpAny _ _ (exec (Stmt.Assign [Expr.Name (Str.ofString "row") _] _ _) _) _ _ _)); (fail_if_success (with_reducible show wpAny _ _ (execs (Stmt.Assign [Expr.Name (Str.ofString "row") _] _ _ :: _) _) _ _ _)); (first | (k_unfold; (try dsimp only)) | ((with_reducible first | show wpAny _ _ (exec _ _) _ _ _ | show wpAny _ _ (execs _ _) _ _ _); k_fold) | (k_end; wrow_close) | walk1 | (dsimp only; walk1) | (leave1; (try dsimp only))))) <;> (repeat (k_unfold; (try dsimp only))))
  rename Fr _ _ _ _ => F11
  rename News _ _ _ _ => N12
  have F12 : Fr h₀ L _ (wl (some (.ref sc)) (some (.int ((n / 2 : Nat) : Int) th)) (some (.str (Tx (textL n b)) tt)) (some (.ref Dw)) (some (.ref D1)) none none none none none none none) := Fr.congr F11 (by (intro y; unfold wl; (rcases Classical.em (y = "script") with rfl | h0); exact rfl; (rcases Classical.em (y = "half") with rfl | h1); exact rfl; (rcases Classical.em (y = "text") with rfl | h2); exact rfl; (rcases Classical.em (y = "words") with rfl | h3); exact rfl; (rcases Classical.em (y = "once") with rfl | h4); exact rfl; (rcases Classical.em (y = "row") with rfl | h5); exact rfl; (rcases Classical.em (y = "character") with rfl | h6); exact rfl; (rcases Classical.em (y = "turned") with rfl | h7); exact rfl; (rcases Classical.em (y = "stairs") with rfl | h8); exact rfl; (rcases Classical.em (y = "crossed") with rfl | h9); exact rfl; (rcases Classical.em (y = "lead") with rfl | h10); exact rfl; (rcases Classical.em (y = "passed") with rfl | h11); exact rfl; (try simp only [if_neg h0, if_neg h1, if_neg h2, if_neg h3, if_neg h4, if_neg h5, if_neg h6, if_neg h7, if_neg h8, if_neg h9, if_neg h10, if_neg h11]); (first | done | exact rfl | (show List.lookup y (_ :: _) = none; simp only [List.lookup, beq_eq_false_iff_ne.mpr h0, beq_eq_false_iff_ne.mpr h1, beq_eq_false_iff_ne.mpr h2, beq_eq_false_iff_ne.mpr h3, beq_eq_false_iff_ne.mpr h4, beq_eq_false_iff_ne.mpr h5, beq_eq_false_iff_ne.mpr h6, beq_eq_false_iff_ne.mpr h7, beq_eq_false_iff_ne.mpr h8, beq_eq_false_iff_ne.mpr h9, beq_eq_false_iff_ne.mpr h10, beq_eq_false_iff_ne.mpr h11]) | (simp only [List.lookup, beq_eq_false_iff_ne.mpr h0, beq_eq_false_iff_ne.mpr h1, beq_eq_false_iff_ne.mpr h2, beq_eq_false_iff_ne.mpr h3, beq_eq_false_iff_ne.mpr h4, beq_eq_false_iff_ne.mpr h5, beq_eq_false_iff_ne.mpr h6, beq_eq_false_iff_ne.mpr h7, beq_eq_false_iff_ne.mpr h8, beq_eq_false_iff_ne.mpr h9, beq_eq_false_iff_ne.mpr h10, beq_eq_false_iff_ne.mpr h11]; done))))
  refine stB3 (s := { s with heap := _, toks := _ }) (by exact rfl) B X T hn hb1 hb2 Rd O S3' S4' k1 k2 k3 k4 k5 M1 hp hcd hyw hf1 hst1 hD1w F12 N12 ?_ ?_ ?_ ?_ ?_ dDt hL hd' hu hQ
  · exact List.forall_mem_cons.mpr ⟨hD1, offM⟩
  · exact List.forall_mem_cons.mpr ⟨fun r hr => ne10 _ (.head _) r (List.mem_append_right _ hr), fun q hq r hr => off9 q (List.mem_append_left _ hq) r hr⟩
  · exact dDw
  · exact fun q hq => (ne10 _ (.head _) q (List.mem_append_left _ hq)).symm
  · exact fun r hr => not_adrs M Rd (fun x hx => off9 x (List.mem_append_right _ hx) r hr)
theorem stB1 (hdef : lawRest ((hd.heap_1 w.params).lookup 216) 5 = some (rest, scope)) (B : Below A₀ base outer h₀) (X : (hd.heap_1 w.params).In h₀) (T : Top tp tl mean mg mb h₀)
    {sc Dt : Addr} {kt n : Nat} {b t0 t1 t2 : Int} {u0 u1 u2 un' th tt : Tok} (hn : 3 ≤ n ∧ n ≤ 15 ∧ n % 2 = 1) (hb1 : -2000 ≤ t1 ∧ t1 ≤ 2000) (hb2 : -2000 ≤ t2 ∧ t2 ≤ 2000)
    {a : LexA} {adr : List Addr} {RO : Nat → List (Addr × Obj) → Prop} {blk T3 T4 : List (Addr × Obj)} {tab : Array Value} (Rd : Reader w a.rd (Tx (textL n b)) adr RO) (O : a.Ok adr)
    (S3 : TabSt 37 35 4 "_int2digits.<locals>.inner" T3) (S4 : TabSt 44 50 4 "_digits2int.<locals>.inner" T4)
    {o1 o2 o3 o4 o5 : Obj} (k1 : cellIs o1 (some (.ref Dt))) (k2 : cellIs o2 (some (.int (n : Int) un'))) (k3 : cellIs o3 (some (.ref a.x))) {v4 v5 : Option Value} (k4 : cellIs o4 v4) (k5 : cellIs o5 v5)
    (M : MachSt w a RO 1 "\n\t\r " [] 0 blk)
    (F : Fr h₀ L s.heap (wl (some (.ref sc)) (some (.int ((n / 2 : Nat) : Int) th)) (some (.str (Tx (textL n b)) tt)) none none none none none none none none none))
    (N : News h₀ L s.heap ([(173, tabObj tab), (Dt, listOf #[Value.int t0 u0, Value.int t1 u1, Value.int t2 u2] kt), (L + 1 + 1 + 1 + 1 + 1, o5), (L + 1 + 1 + 1 + 1, o4), (L + 1 + 1 + 1, o3), (L + 1 + 1, o2), (L + 1, o1)] ++ (blk ++ (T3 ++ T4))))
    (offM : ∀ q ∈ [(173, tabObj tab), (Dt, listOf #[Value.int t0 u0, Value.int t1 u1, Value.int t2 u2] kt), (L + 1 + 1 + 1 + 1 + 1, o5), (L + 1 + 1 + 1 + 1, o4), (L + 1 + 1 + 1, o3), (L + 1 + 1, o2), (L + 1, o1)], q.1 ∉ a.adrs ++ adr) (offT : ∀ q ∈ [(173, tabObj tab), (Dt, listOf #[Value.int t0 u0, Value.int t1 u1, Value.int t2 u2] kt), (L + 1 + 1 + 1 + 1 + 1, o5), (L + 1 + 1 + 1 + 1, o4), (L + 1 + 1 + 1, o3), (L + 1 + 1, o2), (L + 1, o1)], ∀ r ∈ T3 ++ T4, q.1 ≠ r.1)
    (offTM : ∀ r ∈ T3 ++ T4, r.1 ∉ a.adrs ++ adr) (dDt : ∀ q ∈ [(L + 1 + 1 + 1 + 1 + 1, o5), (L + 1 + 1 + 1 + 1, o4), (L + 1 + 1 + 1, o3), (L + 1 + 1, o2), (L + 1, o1)], Dt ≠ q.1)
    (hL : 173 < L) (hd' : dp + 200 < recursionLimit) (hu : un + 2000 < cLine) (hQ : LawEnd h₀ L Q s) :
    wpAny (model Challenge.rw_pe0259_01.row.prog w) (Ar dp un gd (envOfC "law" scope L fa cd :: outer)) (execs rest (envOfC "law" scope L fa cd)) Q E s := by
  revert hdef
  k_fill
  intro hdef
  refine' law_out ?hl hdef ?_
  (case hl => k_is)
  clear hdef
  intro hdef
  cases hdef
  have codeHd := codeHd_of_K (c := 41) (P := 37) X (by kernel_rfl)
  (try dsimp only [List.drop]); (try k_fold)
  have htl : (Tx (textL n b)).length < 2000 := by
    have := textW_len (n := n) (b := b) (by omega)
    rw [Tx_len]; unfold textL; rw [List.length_append]; simp only [List.length_cons, List.length_nil]; omega
  have F0 := F
  unfold wl at F
  obtain ⟨lt6, tw6, k6, l6, its6, hl6, hi6, rfl⟩ := id M
  have N0 := N
  simp only [lexObjs, List.cons_append, List.nil_append] at N
  ((repeat' ((fail_if_success (with_reducible show wpAny _ _ (exec (Stmt.Assign _ (Expr.ListComp _ _ _ _) _) _) _ _ _)); (first | (k_unfold; (try dsimp only)) | ((with_reducible first | show wpAny _ _ (exec _ _) _ _ _ | show wpAny _ _ (execs _ _) _ _ _); k_fold) | (k_end; wrow_close) | walk1 | (dsimp only; walk1) | (leave1; (try dsimp only))))) <;> (repeat (k_unfold; (try dsimp only))))
  refine LCg.Assign_ListComp_U (F₀ := F) (by rfl) (by with_unfolding_all rfl) (by with_unfolding_all rfl) (by decide) (by rfl) (by decide) (by rfl) (by rfl) (by rfl) ?_
  ((repeat' ((fail_if_success (with_reducible show LCg.CompSrc _ _ _ _ _ _ _ _ _ _ _ _ _ _)); (first | (k_unfold; (try dsimp only)) | ((with_reducible first | show wpAny _ _ (exec _ _) _ _ _ | show wpAny _ _ (execs _ _) _ _ _); k_fold) | (k_end; wrow_close) | walk1 | (dsimp only; walk1) | (leave1; (try dsimp only))))) <;> (repeat (k_unfold; (try dsimp only))))
  rename IsRange _ _ _ _ _ _ _ _ => R4
  rename Fr _ _ _ _ => F4
  rename News _ _ _ _ => N4
  refine LCg.CompSrc.range (n := n) (news := [(173, tabObj tab), (Dt, listOf #[Value.int t0 u0, Value.int t1 u1, Value.int t2 u2] kt), (L + 1 + 1 + 1 + 1 + 1, o5), (L + 1 + 1 + 1 + 1, o4), (L + 1 + 1 + 1, o3), (L + 1 + 1, o2), (L + 1, o1)] ++ ((lexObjs w a (.int 1 lt6) (.str "\n\t\r " tw6) its6 k6 ++ l6) ++ (T3 ++ T4))) rfl F4 N4 R4 (small_one (by omega) (by omega) (by omega) (by omega)) (by rw [rangeSize_nat, Int.sub_zero, Int.toNat_natCast]) (by rw [sizeLine_eq]; omega) (fun g' => ?_)
  refine rest_of n (fun i ys news => ∃ p blk, p ≤ (Tx (textL n b)).length ∧ (∃ pre, preL pre ∧ codes (Tx (textL n b)) p = pre ++ restW n b i) ∧ MachSt w a RO (1 + nlTo (Tx (textL n b)) p) "\n\t\r " [] p blk ∧ StrsAre ys ((List.range i).map blank) ∧ news = [(173, tabObj tab), (Dt, listOf #[Value.int t0 u0, Value.int t1 u1, Value.int t2 u2] kt), (L + 1 + 1 + 1 + 1 + 1, o5), (L + 1 + 1 + 1 + 1, o4), (L + 1 + 1 + 1, o3), (L + 1 + 1, o2), (L + 1, o1)] ++ (blk ++ (T3 ++ T4))) ?_ ?_ _ 0 [] _ (Nat.zero_add _)
    ⟨0, _, Nat.zero_le _, ⟨[], .inl rfl, by rw [restW_zero]; simp [codes, Tx_cps]⟩, by simpa [nlTo] using M, .nil, rfl⟩
  · rintro i ys news v I oI C oC D m₂ h8 tk8 E' hi ⟨p, blk8, hp, ⟨pre, hpre, hcd⟩, M8, hys, rfl⟩ ⟨tv, rfl⟩ hns hx F11 N11 o3' ne
    have om := LCg.Off3.mem o3'
    have offI := not_adrs M8 Rd (fun r hr => (om r (List.mem_append_right _ (List.mem_append_left _ hr))).1)
    have offC := not_adrs M8 Rd (fun r hr => (om r (List.mem_append_right _ (List.mem_append_left _ hr))).2.1)
    have offDD := not_adrs M8 Rd (fun r hr => (om r (List.mem_append_right _ (List.mem_append_left _ hr))).2.2)
    clear F4 N4
    try clear N F
    obtain ⟨pre2, hpre2, hlex⟩ := lex_spell i ((b + (i : Int)) % 3) (restW n b (i + 1))
    have hlex2 : lex0 "\n\t\r " (codes (Tx (textL n b)) p) = (blank i, pre2 ++ restW n b (i + 1)) := by rw [hcd, lex_pre hpre, restW_succ hi, hlex]
    obtain ⟨lt8, tw8, k8, l8, its8, hl8, hi8, rfl⟩ := id M8
    simp only [lexObjs, List.cons_append, List.nil_append] at N11
    (try dsimp only); (try k_fold)
    ((repeat' ((fail_if_success (with_reducible show wpAny _ _ (call (Value.ref 91) _) _ _ _)); (first | (k_unfold; (try dsimp only)) | ((with_reducible first | show wpAny _ _ (exec _ _) _ _ _ | show wpAny _ _ (execs _ _) _ _ _); k_fold) | (k_end; wrow_close) | walk1 | (dsimp only; walk1) | (leave1; (try dsimp only))))) <;> (repeat (k_unfold; (try dsimp only))))
    rename Fr _ _ _ _ => F13
    rename News _ _ _ _ => N13
    refine mach_get0 (aa := ((I, oI) :: (C, oC) :: (D, LCg.lst ys) :: [(173, tabObj tab), (Dt, listOf #[Value.int t0 u0, Value.int t1 u1, Value.int t2 u2] kt), (L + 1 + 1 + 1 + 1 + 1, o5), (L + 1 + 1 + 1 + 1, o4), (L + 1 + 1 + 1, o3), (L + 1 + 1, o2), (L + 1, o1)]) ++ (T3 ++ T4)) Rd O M8 ?_ hp (by omega) B F13 X (News.mid (a := (I, oI) :: (C, oC) :: (D, LCg.lst ys) :: [(173, tabObj tab), (Dt, listOf #[Value.int t0 u0, Value.int t1 u1, Value.int t2 u2] kt), (L + 1 + 1 + 1 + 1 + 1, o5), (L + 1 + 1 + 1 + 1, o4), (L + 1 + 1 + 1, o3), (L + 1 + 1, o2), (L + 1, o1)]) (b := lexObjs w a (.int (1 + nlTo (Tx (textL n b)) p) lt8) (.str "\n\t\r " tw8) its8 k8 ++ l8) N13) T rfl rfl (by omega) (by omega) ?_
    · intro q hq
      rcases List.mem_append.mp hq with hq | hq
      · rcases List.mem_cons.mp hq with rfl | hq
        · exact offI
        · rcases List.mem_cons.mp hq with rfl | hq
          · exact offC
          · rcases List.mem_cons.mp hq with rfl | hq
            · exact offDD
            · exact offM q hq
      · exact offTM q hq
    intro t9 p9 blk9 h9 tk9 hp9 hc9 F14 N14 M9
    rw [hlex2] at hc9 ⊢
    refine LCg.CompEnd.intro F14 (News.unmid (a := (I, oI) :: (C, oC) :: (D, LCg.lst ys) :: [(173, tabObj tab), (Dt, listOf #[Value.int t0 u0, Value.int t1 u1, Value.int t2 u2] kt), (L + 1 + 1 + 1 + 1 + 1, o5), (L + 1 + 1 + 1 + 1, o4), (L + 1 + 1 + 1, o3), (L + 1 + 1, o2), (L + 1, o1)]) N14) ([(173, tabObj tab), (Dt, listOf #[Value.int t0 u0, Value.int t1 u1, Value.int t2 u2] kt), (L + 1 + 1 + 1 + 1 + 1, o5), (L + 1 + 1 + 1 + 1, o4), (L + 1 + 1 + 1, o3), (L + 1 + 1, o2), (L + 1, o1)] ++ (blk9 ++ (T3 ++ T4))) (fun q hq => hq) (LCg.Off3.of fun q hq => ?_) trivial ⟨p9, blk9, hp9, ⟨pre2, hpre2, hc9⟩, M9, ?_, rfl⟩
    · rcases List.mem_append.mp hq with hq | hq
      · exact om q (List.mem_append_left _ hq)
      · rcases List.mem_append.mp hq with hq | hq
        · exact ⟨of_adrs M9 Rd offI q hq, of_adrs M9 Rd offC q hq, of_adrs M9 Rd offDD q hq⟩
        · exact om q (List.mem_append_right _ (List.mem_append_right _ hq))
    · rw [List.range_succ, List.map_append]; exact kct_snoc hys
  · rintro ys news ⟨p, blk8, hp, ⟨pre, hpre, hcd⟩, M8, hys, rfl⟩ Dw h8 tk8 F11 N11 oD
    clear F4 N4
    try clear N F
    rw [restW_end] at hcd
    have om := Off1_mem oD
    have offDw := not_adrs M8 Rd (fun r hr => om r (List.mem_append_right _ (List.mem_append_left _ hr)))
    have F12 : Fr h₀ L h8 (wl (some (.ref sc)) (some (.int ((n / 2 : Nat) : Int) th)) (some (.str (Tx (textL n b)) tt)) (some (.ref Dw)) none none none none none none none none) := Fr.congr F11 (by (intro y; unfold wl; (rcases Classical.em (y = "script") with rfl | h0); exact rfl; (rcases Classical.em (y = "half") with rfl | h1); exact rfl; (rcases Classical.em (y = "text") with rfl | h2); exact rfl; (rcases Classical.em (y = "words") with rfl | h3); exact rfl; (rcases Classical.em (y = "once") with rfl | h4); exact rfl; (rcases Classical.em (y = "row") with rfl | h5); exact rfl; (rcases Classical.em (y = "character") with rfl | h6); exact rfl; (rcases Classical.em (y = "turned") with rfl | h7); exact rfl; (rcases Classical.em (y = "stairs") with rfl | h8); exact rfl; (rcases Classical.em (y = "crossed") with rfl | h9); exact rfl; (rcases Classical.em (y = "lead") with rfl | h10); exact rfl; (rcases Classical.em (y = "passed") with rfl | h11); exact rfl; (try simp only [if_neg h0, if_neg h1, if_neg h2, if_neg h3, if_neg h4, if_neg h5, if_neg h6, if_neg h7, if_neg h8, if_neg h9, if_neg h10, if_neg h11]); (first | done | exact rfl | (show List.lookup y (_ :: _) = none; simp only [List.lookup, beq_eq_false_iff_ne.mpr h0, beq_eq_false_iff_ne.mpr h1, beq_eq_false_iff_ne.mpr h2, beq_eq_false_iff_ne.mpr h3, beq_eq_false_iff_ne.mpr h4, beq_eq_false_iff_ne.mpr h5, beq_eq_false_iff_ne.mpr h6, beq_eq_false_iff_ne.mpr h7, beq_eq_false_iff_ne.mpr h8, beq_eq_false_iff_ne.mpr h9, beq_eq_false_iff_ne.mpr h10, beq_eq_false_iff_ne.mpr h11]) | (simp only [List.lookup, beq_eq_false_iff_ne.mpr h0, beq_eq_false_iff_ne.mpr h1, beq_eq_false_iff_ne.mpr h2, beq_eq_false_iff_ne.mpr h3, beq_eq_false_iff_ne.mpr h4, beq_eq_false_iff_ne.mpr h5, beq_eq_false_iff_ne.mpr h6, beq_eq_false_iff_ne.mpr h7, beq_eq_false_iff_ne.mpr h8, beq_eq_false_iff_ne.mpr h9, beq_eq_false_iff_ne.mpr h10, beq_eq_false_iff_ne.mpr h11]; done))))
    refine stB2 (s := { s with heap := h8, toks := tk8 }) (by exact rfl) B X T hn hb1 hb2 Rd O S3 S4 k1 k2 k3 k4 k5 M8 hp ⟨pre, hpre, hcd⟩ hys F12 N11 ?_ ?_ ?_ offTM dDt hL hd' hu hQ
    · exact List.forall_mem_cons.mpr ⟨offDw, offM⟩
    · exact List.forall_mem_cons.mpr ⟨fun r hr => (om r (List.mem_append_right _ (List.mem_append_right _ hr))).symm, offT⟩
    · exact fun q hq => om q (List.mem_append_left _ hq)
end

section
variable {w : World} {dp un : Nat} {gd : Option (List Code)} {outer : List Env} {A₀ : Around} {base h₀ : Heap} {L fa : Addr} {cd : Value} {tp : Program} {tl : List Str} {mean : ExcName → Option Value} {mg mb : Str → Option Value} {s : Shared} {Q : Flow → Shared → Prop} {E : Value → Shared → Prop} {rest : List Stmt} {scope : Scope}
theorem stA (hdef : lawRest ((hd.heap_1 w.params).lookup 216) 0 = some (rest, scope)) (B : Below A₀ base outer h₀) (X : (hd.heap_1 w.params).In h₀) (T : Top tp tl mean mg mb h₀)
    {sc : Addr} {vs : List Value} {ns : List Int} (hsc : h₀.IsList sc vs.toArray) (hi : IntsAre vs ns) (hl : ns.length ≤ 63) {c1 c2 c3 c4 c5 : Obj} (k1 : cellIs c1 none) (k2 : cellIs c2 none) (k3 : cellIs c3 none) (k4 : cellIs c4 none) (k5 : cellIs c5 none)
    (F : Fr h₀ L s.heap (wl (some (.ref sc)) none none none none none none none none none none none))
    (N : News h₀ L s.heap [(L + 1 + 1 + 1 + 1 + 1, c5), (L + 1 + 1 + 1 + 1, c4), (L + 1 + 1 + 1, c3), (L + 1 + 1, c2), (L + 1, c1), (173, tabObj #[]), (44, tabObj #[]), (37, tabObj #[])])
    (hL : 173 < L) (hd' : dp + 200 < recursionLimit) (hu : un + 2000 < cLine)
    (hQ : LawEnd h₀ L Q s) :
    wpAny (model Challenge.rw_pe0259_01.row.prog w) (Ar dp un gd (envOfC "law" scope L fa cd :: outer)) (execs rest (envOfC "law" scope L fa cd)) Q E s := by
  revert hdef
  k_fill
  intro hdef
  refine' law_out ?hl hdef ?_
  (case hl => k_is)
  clear hdef
  intro hdef
  cases hdef
  have codeHd := codeHd_of_K (c := 41) (P := 37) X (by kernel_rfl)
  (try dsimp only [List.drop]); (try k_fold)
  unfold wl at F
  ((repeat' ((fail_if_success (with_reducible show wpAny _ _ (call (Value.ref 185) _) _ _ _)); (first | (k_unfold; (try dsimp only)) | ((with_reducible first | show wpAny _ _ (exec _ _) _ _ _ | show wpAny _ _ (execs _ _) _ _ _); k_fold) | (k_end; wrow_close) | walk1 | (dsimp only; walk1) | (leave1; (try dsimp only))))) <;> (repeat (k_unfold; (try dsimp only))))
  rename Fr _ _ _ _ => F1
  rename News _ _ _ _ => N1
  refine use_gP (totals_c w sc vs ns hi hl) (oth := [(L + 1 + 1 + 1 + 1 + 1, c5), (L + 1 + 1 + 1 + 1, c4), (L + 1 + 1 + 1, c3), (L + 1 + 1, c2), (L + 1, c1), (173, tabObj #[]), (44, tabObj #[]), (37, tabObj #[])]) hsc (fun h h' st hx => by obtain ⟨o, e, r⟩ := hx; exact ⟨o, st _ _ e, r⟩) B F1 X N1 T rfl rfl (fun p hp => nomatch hp) (fun p hp => hp) (fun p hp q hq => nomatch hq) (by omega) (by omega) ?_
  rintro v blk h2 tk2 F2 N2 ne2 - ⟨Dt, vt, kt, ts, rfl, rfl, hvt, h3, hb3⟩
  have hDt := ne2 _ (.head _)
  have d1 : Dt ≠ L + 1 + 1 + 1 + 1 + 1 := hDt (_, c5) (.head _)
  have d2 : Dt ≠ L + 1 + 1 + 1 + 1 := hDt (_, c4) (.tail _ (.head _))
  have d3 : Dt ≠ L + 1 + 1 + 1 := hDt (_, c3) (.tail _ (.tail _ (.head _)))
  have d4 : Dt ≠ L + 1 + 1 := hDt (_, c2) (.tail _ (.tail _ (.tail _ (.head _))))
  have d5 : Dt ≠ L + 1 := hDt (_, c1) (.tail _ (.tail _ (.tail _ (.tail _ (.head _)))))
  have d6 : Dt ≠ 173 := hDt (173, tabObj #[]) (.tail _ (.tail _ (.tail _ (.tail _ (.tail _ (.head _))))))
  have d7 : Dt ≠ 44 := hDt (44, tabObj #[]) (.tail _ (.tail _ (.tail _ (.tail _ (.tail _ (.tail _ (.head _)))))))
  have d8 : Dt ≠ 37 := hDt (37, tabObj #[]) (.tail _ (.tail _ (.tail _ (.tail _ (.tail _ (.tail _ (.tail _ (.head _))))))))
  obtain ⟨t0, t1, t2, rfl⟩ : ∃ t0 t1 t2, ts = [t0, t1, t2] := by
    rcases ts with _ | ⟨t0, _ | ⟨t1, _ | ⟨t2, _ | ⟨t3, r⟩⟩⟩⟩
    · cases h3
    · cases h3
    · cases h3
    · exact ⟨t0, t1, t2, rfl⟩
    · simp at h3
  have hb0 : -2000 ≤ t0 ∧ t0 ≤ 2000 := hb3 0
  have hb1 : -2000 ≤ t1 ∧ t1 ≤ 2000 := hb3 1
  have hb2 : -2000 ≤ t2 ∧ t2 ≤ 2000 := hb3 2
  rcases hvt with _ | ⟨_, u0, hvt⟩
  rcases hvt with _ | ⟨_, u1, hvt⟩
  rcases hvt with _ | ⟨_, u2, hvt⟩
  rcases hvt with _ | ⟨_, _, _⟩
  simp only [List.cons_append, List.nil_append] at N2
  clear F1 N1 hDt ne2 hb3 h3
  have c6 := kn37 hL
  (try dsimp only)
  ((repeat' ((fail_if_success (with_reducible show wpAny _ _ (exec (Stmt.Assign [Expr.Name (Str.ofString "half") _] _ _) _) _ _ _)); (first | (k_unfold; (try dsimp only)) | ((with_reducible first | show wpAny _ _ (exec _ _) _ _ _ | show wpAny _ _ (execs _ _) _ _ _); k_fold) | (k_end; wrow_close) | walk1 | (dsimp only; walk1) | (leave1; (try dsimp only))))) <;> (repeat (k_unfold; (try dsimp only))))
  rename_i _ o1 dT _ _ o2 _ _ dS
  obtain ⟨n, hn⟩ : ∃ n : Nat, n = 3 + (t0 % 7).toNat * 2 := ⟨_, rfl⟩
  have hn2 : 3 ≤ n ∧ n ≤ 15 ∧ n % 2 = 1 := by omega
  have en : 3 + ([t0, t1, t2].getD (Int.toNat 0) 0).fmod 7 * 2 = (n : Int) := by
    show 3 + t0.fmod 7 * 2 = _
    rw [Int.fmod_eq_emod_of_nonneg _ (by decide)]
    omega
  rw [en] at dS
  ((repeat' ((fail_if_success (with_reducible show wpAny _ _ (eval (Expr.ListComp _ _ _ _) _) _ _ _)); (first | ((with_reducible show wpAny _ _ (binaryOp Operator.FloorDiv _ (Value.int 2 _)) _ _ _); refine fdiv2_st ?_) | (k_unfold; (try dsimp only)) | ((with_reducible first | show wpAny _ _ (exec _ _) _ _ _ | show wpAny _ _ (execs _ _) _ _ _); k_fold) | (k_end; wrow_close) | walk1 | (dsimp only; walk1) | (leave1; (try dsimp only))))) <;> (repeat (k_unfold; (try dsimp only))))
  rename Fr _ _ _ _ => F3
  rename News _ _ _ _ => N3
  refine LCg.ListComp_U (F₀ := F3) (by with_unfolding_all rfl) (by decide) (by rfl) (by decide) (by rfl) ?_
  ((repeat' ((fail_if_success (with_reducible show LCg.CompSrc _ _ _ _ _ _ _ _ _ _ _ _ _ _)); (first | (k_unfold; (try dsimp only)) | ((with_reducible first | show wpAny _ _ (exec _ _) _ _ _ | show wpAny _ _ (execs _ _) _ _ _); k_fold) | (k_end; wrow_close) | walk1 | (dsimp only; walk1) | (leave1; (try dsimp only))))) <;> (repeat (k_unfold; (try dsimp only))))
  rename Fr _ _ _ _ => F4
  rename News _ _ _ _ => N4
  rename IsRange _ _ _ _ _ _ _ _ => R4
  refine LCg.CompSrc.range (n := n) rfl F4 N4 R4 (small_one (by omega) (by omega) (by omega) (by omega)) (by rw [rangeSize_nat, Int.sub_zero, Int.toNat_natCast]) (by rw [sizeLine_eq]; omega) (fun g' => ?_)
  obtain ⟨nw, hnw⟩ : ∃ nw, nw = [(Dt, listOf #[Value.int t0 u0, Value.int t1 u1, Value.int t2 u2] kt), (L + 1 + 1 + 1 + 1 + 1, c5), (L + 1 + 1 + 1 + 1, c4), (L + 1 + 1 + 1, c3), (L + 1 + 1, o2), (L + 1, o1), (173, tabObj #[]), (44, tabObj #[]), (37, tabObj #[])] := ⟨_, rfl⟩
  refine rest_of n (fun i ys news => StrsAre ys ((List.range i).map fun k => Tx (spellL k ((t0 / 7 + (k : Int)) % 3))) ∧ news = nw) ?_ ?_ _ 0 [] _ (Nat.zero_add _) ⟨.nil, hnw.symm⟩
  · rintro i ys news v I oI C oC D m₂ h8 tk8 E' hi ⟨hys, rfl⟩ ⟨tv, rfl⟩ hns hx F11 N11 o3 ne
    rw [Int.zero_add] at hx
    subst hnw
    clear F4 N4
    try clear F3 N3
    (try dsimp only); (try k_fold)
    ((repeat' ((fail_if_success (with_reducible show wpAny _ _ (call (Value.ref 192) _) _ _ _)); (first | (k_unfold; (try dsimp only)) | ((with_reducible first | show wpAny _ _ (exec _ _) _ _ _ | show wpAny _ _ (execs _ _) _ _ _); k_fold) | (k_end; wrow_close) | walk1 | (dsimp only; walk1) | (leave1; (try dsimp only))))) <;> (repeat (k_unfold; (try dsimp only))))
    rename Fr _ _ _ _ => F12
    rename News _ _ _ _ => N12
    have em : (([t0, t1, t2].getD (Int.toNat 0) 0).fdiv 7 + (i : Int)).fmod 3 = (t0 / 7 + (i : Int)) % 3 := by
      show (t0.fdiv 7 + (i : Int)).fmod 3 = _
      rw [Int.fmod_eq_emod_of_nonneg _ (by decide), Int.fdiv_eq_ediv_of_nonneg _ (by decide)]
    rw [em]
    refine use_g (spelled_c w i _ _ _ (by omega) (by omega) (by omega)) (oth := _) B F12 X N12 T rfl rfl (fun p hp => nomatch hp) (fun p hp => hp) (fun p hp q hq => nomatch hq) (by omega) (by omega) ?_
    rintro v9 blk9 h9 tk9 F13 N13 - - ⟨⟨t9, rfl⟩, rfl⟩
    refine LCg.CompEnd.intro F13 N13 _ (fun q hq => hq) o3 trivial ⟨?_, rfl⟩
    rw [List.range_succ, List.map_append]
    exact kct_snoc hys
  · rintro ys news ⟨hys, rfl⟩ Dc h8 tk8 F11 N11 oD
    subst hnw
    clear F4 N4
    try clear F3 N3
    (try dsimp only); (try k_fold)
    ((repeat' ((fail_if_success (with_reducible show wpAny _ _ (call (Value.builtin "str.join") _) _ _ _)); (first | (k_unfold; (try dsimp only)) | ((with_reducible first | show wpAny _ _ (exec _ _) _ _ _ | show wpAny _ _ (execs _ _) _ _ _); k_fold) | (k_end; wrow_close) | walk1 | (dsimp only; walk1) | (leave1; (try dsimp only))))) <;> (repeat (k_unfold; (try dsimp only))))
    rename Fr _ _ _ _ => F12
    rename News _ _ _ _ => N12
    have hw9 := textW_len (n := n) (b := t0 / 7) (by omega)
    refine join_T (xs := textW n (t0 / 7)) (News.isList N12 (.head _)) hys (by unfold textW; rw [List.map_map]; rfl) (by unfold textW at hw9 ⊢; rw [List.length_map, List.length_range]; omega) ?_
    intro t12 tk12
    (try dsimp only)
    have htl : (Tx (textL n (t0 / 7))).length < 2000 := by rw [Tx_len]; unfold textL; rw [List.length_append]; simp only [List.length_cons, List.length_nil]; omega
    ((repeat' ((fail_if_success (with_reducible show wpAny _ _ (call (Value.ref 178) _) _ _ _)); (first | ((with_reducible show wpAny _ _ (binaryOp Operator.Add (Value.str _ _) (Value.str _ _)) _ _ _); refine add_Tx lit_end (by simp only [List.length_cons, List.length_nil]; omega) ?_; intro _ _) | (k_unfold; (try dsimp only)) | ((with_reducible first | show wpAny _ _ (exec _ _) _ _ _ | show wpAny _ _ (execs _ _) _ _ _); k_fold) | (k_end; wrow_close) | walk1 | (dsimp only; walk1) | (leave1; (try dsimp only))))) <;> (repeat (k_unfold; (try dsimp only))))
    rename Fr _ _ _ _ => F13
    rename News _ _ _ _ => N13
    refine use_g (machine_c w (Tx (textL n (t0 / 7))) _ (by omega)) (oth := [(Dt, listOf #[Value.int t0 u0, Value.int t1 u1, Value.int t2 u2] kt), (L + 1 + 1 + 1 + 1 + 1, c5), (L + 1 + 1 + 1 + 1, c4), (L + 1 + 1 + 1, c3), (L + 1 + 1, o2), (L + 1, o1), (44, tabObj #[]), (37, tabObj #[])]) B F13 X N13 T rfl rfl (by repeat' (first | exact List.forall_mem_nil _ | (refine List.forall_mem_cons.mpr ⟨by k_mem, ?_⟩))) (by repeat' (first | exact List.forall_mem_nil _ | (refine List.forall_mem_cons.mpr ⟨by k_mem, ?_⟩))) (by repeat' (first | exact List.forall_mem_nil _ | refine List.forall_mem_cons.mpr ⟨?_, ?_⟩ | ((try dsimp only); first | assumption | (refine Ne.symm ?_; assumption) | (refine neN ?_; (try dsimp only); first | (refine Nat.ne_of_gt ?_; with_reducible ((repeat (first | assumption | exact And.left (by assumption) | exact And.left (And.right (by assumption)) | exact And.right (And.right (by assumption)) | exact And.right (by assumption) | exact And.left (And.right (And.right (by assumption))) | exact And.right (And.right (And.right (by assumption))) | exact And.left (And.right (And.right (And.right (by assumption)))) | exact And.left (And.right (And.right (And.right (And.right (by assumption))))) | refine Nat.lt_trans ?_ (by assumption))); done)) | (refine Nat.ne_of_lt ?_; with_reducible ((repeat (first | assumption | exact And.left (by assumption) | exact And.left (And.right (by assumption)) | exact And.right (And.right (by assumption)) | exact And.right (by assumption) | exact And.left (And.right (And.right (by assumption))) | exact And.right (And.right (And.right (by assumption))) | exact And.left (And.right (And.right (And.right (by assumption)))) | exact And.left (And.right (And.right (And.right (And.right (by assumption))))) | refine Nat.lt_trans ?_ (by assumption))); done)) | omega)))) (by omega) (by omega) ?_
    rintro v14 blk14 h14 tk14 F14 N14 ne14 - ⟨a, adr, RO, blk, tab, Rd, O, rfl, M, rfl, h173⟩
    have offs : ∀ q ∈ [(Dt, listOf #[Value.int t0 u0, Value.int t1 u1, Value.int t2 u2] kt), (L + 1 + 1 + 1 + 1 + 1, c5), (L + 1 + 1 + 1 + 1, c4), (L + 1 + 1 + 1, c3), (L + 1 + 1, o2), (L + 1, o1), (44, tabObj #[]), (37, tabObj #[])], q.1 ∉ a.adrs ++ adr :=
      fun q hq => not_adrs M Rd (fun r hr => ne14 r (List.mem_append_left _ hr) q hq)
    replace N14 : News h₀ L h14 ([(173, tabObj tab), (Dt, listOf #[Value.int t0 u0, Value.int t1 u1, Value.int t2 u2] kt), (L + 1 + 1 + 1 + 1 + 1, c5), (L + 1 + 1 + 1 + 1, c4), (L + 1 + 1 + 1, c3), (L + 1 + 1, o2), (L + 1, o1), (44, tabObj #[]), (37, tabObj #[])] ++ blk) := fun q hq => by
      rcases List.mem_append.mp hq with hq | hq
      · rcases List.mem_cons.mp hq with rfl | hq
        · exact N14 _ (List.mem_append_left _ (List.mem_append_right _ (.head _)))
        · exact N14 _ (List.mem_append_right _ hq)
      · exact N14 _ (List.mem_append_left _ (List.mem_append_left _ hq))
    clear F13 N13
    obtain ⟨lt6, tw6, k6, l6, its6, hl6, hi6, rfl⟩ := id M
    obtain ⟨e1, e2, e3, e4, e5, e6⟩ := mach_ne M Rd (offs (L + 1 + 1 + 1, c3) (.tail _ (.tail _ (.tail _ (.head _)))))
    simp only [lexObjs, List.cons_append, List.nil_append] at N14
    (try dsimp only)
    ((repeat' ((fail_if_success (with_reducible show wpAny _ _ (execs (Stmt.Assign [Expr.Name (Str.ofString "words") _] _ _ :: _) _) _ _ _)); (first | (k_unfold; (try dsimp only)) | ((with_reducible first | show wpAny _ _ (exec _ _) _ _ _ | show wpAny _ _ (execs _ _) _ _ _); k_fold) | (k_end; wrow_close) | walk1 | (dsimp only; walk1) | (leave1; (try dsimp only))))) <;> (repeat (k_unfold; (try dsimp only))))
    rename_i o3' _ _ d3'
    rename Fr _ _ _ _ => F15
    rename News _ _ _ _ => N15
    (try dsimp only)
    have F16 : Fr h₀ L _ (wl (some (.ref sc)) (some (.int ((n / 2 : Nat) : Int) _)) (some (.str (Tx (textL n (t0 / 7))) _)) none none none none none none none none none) := Fr.congr F15 (by (intro y; unfold wl; (rcases Classical.em (y = "script") with rfl | h0); exact rfl; (rcases Classical.em (y = "half") with rfl | h1); exact rfl; (rcases Classical.em (y = "text") with rfl | h2); exact rfl; (rcases Classical.em (y = "words") with rfl | h3); exact rfl; (rcases Classical.em (y = "once") with rfl | h4); exact rfl; (rcases Classical.em (y = "row") with rfl | h5); exact rfl; (rcases Classical.em (y = "character") with rfl | h6); exact rfl; (rcases Classical.em (y = "turned") with rfl | h7); exact rfl; (rcases Classical.em (y = "stairs") with rfl | h8); exact rfl; (rcases Classical.em (y = "crossed") with rfl | h9); exact rfl; (rcases Classical.em (y = "lead") with rfl | h10); exact rfl; (rcases Classical.em (y = "passed") with rfl | h11); exact rfl; (try simp only [if_neg h0, if_neg h1, if_neg h2, if_neg h3, if_neg h4, if_neg h5, if_neg h6, if_neg h7, if_neg h8, if_neg h9, if_neg h10, if_neg h11]); (first | done | exact rfl | (show List.lookup y (_ :: _) = none; simp only [List.lookup, beq_eq_false_iff_ne.mpr h0, beq_eq_false_iff_ne.mpr h1, beq_eq_false_iff_ne.mpr h2, beq_eq_false_iff_ne.mpr h3, beq_eq_false_iff_ne.mpr h4, beq_eq_false_iff_ne.mpr h5, beq_eq_false_iff_ne.mpr h6, beq_eq_false_iff_ne.mpr h7, beq_eq_false_iff_ne.mpr h8, beq_eq_false_iff_ne.mpr h9, beq_eq_false_iff_ne.mpr h10, beq_eq_false_iff_ne.mpr h11]) | (simp only [List.lookup, beq_eq_false_iff_ne.mpr h0, beq_eq_false_iff_ne.mpr h1, beq_eq_false_iff_ne.mpr h2, beq_eq_false_iff_ne.mpr h3, beq_eq_false_iff_ne.mpr h4, beq_eq_false_iff_ne.mpr h5, beq_eq_false_iff_ne.mpr h6, beq_eq_false_iff_ne.mpr h7, beq_eq_false_iff_ne.mpr h8, beq_eq_false_iff_ne.mpr h9, beq_eq_false_iff_ne.mpr h10, beq_eq_false_iff_ne.mpr h11]; done))))
    refine stB1 (s := { s with heap := _, toks := _ }) (tab := tab) (t0 := t0) (t1 := t1) (t2 := t2) (u0 := u0) (u1 := u1) (u2 := u2) (kt := kt) (Dt := Dt) (n := n) (b := t0 / 7) (T3 := [(37, tabObj #[])]) (T4 := [(44, tabObj #[])]) (by exact rfl) B X T hn2 hb1 hb2 Rd O (.inl rfl) (.inl rfl) dT dS d3' k4 k5 M F16 (fun q hq => ?_) ?_ ?_ ?_ ?_ hL hd' hu hQ
    · rcases List.mem_append.mp hq with hq | hq
      · simp only [List.mem_cons, List.not_mem_nil, or_false] at hq
        rcases hq with rfl | rfl | rfl | rfl | rfl | rfl | rfl <;> exact N15 _ (by k_mem)
      · rcases List.mem_append.mp hq with hq | hq
        · exact N15 q (by
            iterate 9 apply List.Mem.tail
            exact hq)
        · have hq : q ∈ [(37, tabObj #[]), (44, tabObj #[])] := hq
          simp only [List.mem_cons, List.not_mem_nil, or_false] at hq
          rcases hq with rfl | rfl <;> exact N15 _ (by k_mem)
    · exact List.forall_mem_cons.mpr ⟨h173, fst_forall (l := [(Dt, listOf #[Value.int t0 u0, Value.int t1 u1, Value.int t2 u2] kt), (L + 1 + 1 + 1 + 1 + 1, c5), (L + 1 + 1 + 1 + 1, c4), (L + 1 + 1 + 1, c3), (L + 1 + 1, o2), (L + 1, o1)]) (P := fun x => x ∉ a.adrs ++ adr) (by rfl) (fun q hq => offs q (List.mem_append_left [(44, tabObj #[]), (37, tabObj #[])] hq))⟩
    · have h7 : ∀ x : Addr, x ≠ 37 → x ≠ 44 → ∀ r ∈ [((37 : Addr), tabObj #[])] ++ [((44 : Addr), tabObj #[])], x ≠ r.1 := fun x h1 h2 => List.forall_mem_cons.mpr ⟨h1, List.forall_mem_cons.mpr ⟨h2, List.forall_mem_nil _⟩⟩
      have hh : ∀ k : Nat, (173 : Nat) < k → k ≠ 37 ∧ k ≠ 44 := fun k hk => ⟨by omega, by omega⟩
      have hL' : (173 : Nat) < L := hL
      have hLk : ∀ k : Nat, L + k ≠ 37 ∧ L + k ≠ 44 := fun k => hh _ (Nat.lt_of_lt_of_le hL' (Nat.le_add_right _ _))
      exact List.forall_mem_cons.mpr ⟨h7 173 (by decide) (by decide), List.forall_mem_cons.mpr ⟨h7 _ d8 d7, List.forall_mem_cons.mpr ⟨h7 _ (hLk 5).1 (hLk 5).2, List.forall_mem_cons.mpr ⟨h7 _ (hLk 4).1 (hLk 4).2, List.forall_mem_cons.mpr ⟨h7 _ (hLk 3).1 (hLk 3).2, List.forall_mem_cons.mpr ⟨h7 _ (hLk 2).1 (hLk 2).2, List.forall_mem_cons.mpr ⟨h7 _ (hLk 1).1 (hLk 1).2, List.forall_mem_nil _⟩⟩⟩⟩⟩⟩⟩
    · exact List.forall_mem_cons.mpr ⟨offs (37, tabObj #[]) (by k_mem), List.forall_mem_cons.mpr ⟨offs (44, tabObj #[]) (by k_mem), List.forall_mem_nil _⟩⟩
    · exact List.forall_mem_cons.mpr ⟨d1, List.forall_mem_cons.mpr ⟨d2, List.forall_mem_cons.mpr ⟨d3, List.forall_mem_cons.mpr ⟨d4, List.forall_mem_cons.mpr ⟨d5, List.forall_mem_nil _⟩⟩⟩⟩⟩
end
theorem fr_script {h₀ h : Heap} {L sc : Addr} (F : Fr h₀ L h (fun y => if y = "script" then some (.ref sc) else none)) : Fr h₀ L h (wl (some (.ref sc)) none none none none none none none none none none none) :=
  Fr.congr F (by (intro y; unfold wl; (rcases Classical.em (y = "script") with rfl | h0); exact rfl; (rcases Classical.em (y = "half") with rfl | h1); exact rfl; (rcases Classical.em (y = "text") with rfl | h2); exact rfl; (rcases Classical.em (y = "words") with rfl | h3); exact rfl; (rcases Classical.em (y = "once") with rfl | h4); exact rfl; (rcases Classical.em (y = "row") with rfl | h5); exact rfl; (rcases Classical.em (y = "character") with rfl | h6); exact rfl; (rcases Classical.em (y = "turned") with rfl | h7); exact rfl; (rcases Classical.em (y = "stairs") with rfl | h8); exact rfl; (rcases Classical.em (y = "crossed") with rfl | h9); exact rfl; (rcases Classical.em (y = "lead") with rfl | h10); exact rfl; (rcases Classical.em (y = "passed") with rfl | h11); exact rfl; (try simp only [if_neg h0, if_neg h1, if_neg h2, if_neg h3, if_neg h4, if_neg h5, if_neg h6, if_neg h7, if_neg h8, if_neg h9, if_neg h10, if_neg h11]); (first | done | exact rfl | (show List.lookup y (_ :: _) = none; simp only [List.lookup, beq_eq_false_iff_ne.mpr h0, beq_eq_false_iff_ne.mpr h1, beq_eq_false_iff_ne.mpr h2, beq_eq_false_iff_ne.mpr h3, beq_eq_false_iff_ne.mpr h4, beq_eq_false_iff_ne.mpr h5, beq_eq_false_iff_ne.mpr h6, beq_eq_false_iff_ne.mpr h7, beq_eq_false_iff_ne.mpr h8, beq_eq_false_iff_ne.mpr h9, beq_eq_false_iff_ne.mpr h10, beq_eq_false_iff_ne.mpr h11]) | (simp only [List.lookup, beq_eq_false_iff_ne.mpr h0, beq_eq_false_iff_ne.mpr h1, beq_eq_false_iff_ne.mpr h2, beq_eq_false_iff_ne.mpr h3, beq_eq_false_iff_ne.mpr h4, beq_eq_false_iff_ne.mpr h5, beq_eq_false_iff_ne.mpr h6, beq_eq_false_iff_ne.mpr h7, beq_eq_false_iff_ne.mpr h8, beq_eq_false_iff_ne.mpr h9, beq_eq_false_iff_ne.mpr h10, beq_eq_false_iff_ne.mpr h11]; done))))
theorem fin : PySem.Challenge.rw_pe0259_01.Holds := by
  refine holds_law well fun said => ?_
  refine holds_open (q := view) (loose := [PySem.Str.ofString "Whitespace"]) (Xt := Xs) (XP := XL view []) (Yf := hk.obs) (Ya := hk.val) (YP := Hook.says (kmHook hd.heap_1 ads adsE [173, 44, 37])) (N := 2744) left (Hook.of hk) (Hook.keeps hk) (fun s e => xl_of s (Bool.and_eq_true_iff.mp e).1) XL.keeps (by rfl) (by rfl) (by rfl) (fun s e => recFacts_of (Bool.and_eq_true_iff.mp e).2) (by rfl) said (by decide +kernel) ⟨rfl, rfl, rfl, rfl, rfl, by decide +kernel⟩ ?hw ?hc
  (case hw => w_witness2)
  clear said
  k_go0
  rename Fr _ _ _ _ => F
  rename News _ _ _ _ => N
  rename Below _ _ _ _ => B
  rename Top topProg _ _ _ _ _ => T
  rename (Heap.IsList _ _ _) => hsc
  rename IntsAre _ _ => hi
  rename (173 < _ ∧ _) => l0
  refine stA (by exact rfl) B (by assumption) T hsc hi (by omega) (by assumption) (by assumption) (by assumption) (by assumption) (by assumption) (fr_script F) N l0.1 ?_ ?_ ?_
  · exact Nat.lt_of_le_of_lt (Nat.le_refl _) (by decide)
  · exact Nat.lt_of_le_of_lt (Nat.le_refl _) (by decide)
  · intro m' h' tk' p1 p2 p3 F' N'
    clear F N
    (try dsimp only)
    refine ⟨?_, ?_⟩
    · wrow_close
    · repeat' (first | exact True.intro | (refine And.intro (GrownAt.of (by k_asm) (by k_mem)) ?_))
end Mine
theorem PySem.Challenge.cw_pe0259_01_holds : PySem.Challenge.rw_pe0259_01.Holds :=
  Mine.fin
